/-
  SEAT b6002353a: a row of entries that is appended to.
-/
import Derived.Test.Qxb6002353aDigest
import Derived.Test.Qxb6002353aSorted
import Derived.Deep.RegionLaw
namespace Go.Proofs.Qxb6002353a
open Go.RowKit
set_option linter.unusedVariables false
set_option linter.unusedSimpArgs false

/-- append as one step of a region that draws, its run known -/
theorem step_append_run {ops : Array Oper} {o : Oper} {a : Act} {w : World} {K : Act → World → Prop} {Q : Exit → Act → World → Prop} {E : Prop}
    (hg : o.guard = none) (s x : Operand) (t tx : TypeId) (hop : o.op = Op.call { callee := Callee.builtin Builtin.append, args := #[s, x], argTypes := #[t, tx] })
    (v u : Value) (hs : a.eval s = v) (hx : a.eval x = u) {v' : Value} {w' : World} (hr : (Builtin.append_ #[t, tx] o.type #[v, u]).run Try.prog w = .ok v' w')
    (hK : K (a.put o.dst v') w') :
    if Region.wanted o (yielded ops a.tmps) = true then Oper.wp Try.prog o a w K Q else E := by
  have hw : Region.wanted o (yielded ops a.tmps) = true := by simp [Region.wanted, hg]
  rw [if_pos hw]
  unfold Oper.wp
  simp [execOp, hop, resolve, invoke, builtin, hs, hx, hr, Result.andThen]
  exact hK

/-- cells of n entries -/
def EL (G : Gh) (n : Nat) (xs : List Value) : Prop := ∀ i, i < n → ∃ s tg su, (ID G s ∧ U64 tg) ∧ xs[3 * i]? = some (.string s) ∧ xs[3 * i + 1]? = some (.int .u64 tg) ∧ xs[3 * i + 2]? = some (.bool su)
theorem EL.ext {G G' n xs} (h : EL G n xs) (X : Ext G G') : EL G' n xs := fun i hi => by
  obtain ⟨s, tg, su, ⟨h1, h2⟩, h3⟩ := h i hi
  exact ⟨s, tg, su, ⟨h1.ext X, h2⟩, h3⟩
/-- a row of entries, own, not yet told -/
structure Et (G : Gh) (v : Value) (n : Nat) (w : World) : Prop where
  vk : ∀ b, v.ownBlock = some b → (G.kd b).t = 15
  own : ∃ xs, w.ownsRow G.w0.heap.size 91 3 v n xs ∧ EL G n xs
  z : n = 0 → v = .slice none 0 0

theorem Ext.trans {G G' G'' : Gh} (h1 : Ext G G') (h2 : Ext G' G'') (hw : ∀ b, (G.kd b).t ≠ 0 → (G.kd b).t ≠ 14 → (G.kd b).t ≠ 15 → kUp (G'.kd b) (G''.kd b)) : Ext G G'' := by
  refine ⟨h2.k.trans h1.k, h2.lay.trans h1.lay, h2.rd.trans h1.rd, h2.rs.trans h1.rs, h2.qs.trans h1.qs, h2.bn.trans h1.bn, Nat.le_trans h1.t h2.t, fun b => ?_⟩
  rcases h1.kd b with h | h | h | h
  · exact .inl h
  · exact .inr (.inl h)
  · exact .inr (.inr (.inl h))
  · by_cases e0 : (G.kd b).t = 0
    · exact .inl e0
    · by_cases e1 : (G.kd b).t = 14
      · exact .inr (.inl e1)
      · by_cases e2 : (G.kd b).t = 15
        · exact .inr (.inr (.inl e2))
        · exact .inr (.inr (.inr (h.trans (hw b e0 e1 e2))))

theorem Agree.ext {G G' : Gh} (h : Agree G) (X : Ext G G') : Agree G' := fun x hx s => by
  rw [X.qs, X.rs]; exact h x (by rw [← X.k]; exact hx) s

theorem Et.app {E w G v n s tg su} (T : TypedE E w G) (B : Et G v n w) (hs : ID G s) (ht : U64 tg) (hn : n ≤ 1000) (ty : TypeId) :
    ∃ v' w5, (Builtin.append_ #[41, 41] ty #[v, .slice (some ⟨w.heap.size, 0, none⟩) 1 1]).run Try.prog (w.alloc (.cells #[.string s, .int .u64 tg, .bool su] 91)) = .ok v' w5 ∧ (∃ g c, v' = .slice (some ⟨g, 0, none⟩) (n + 1) c) ∧
      (∀ b, b < w.heap.size → v.ownBlock ≠ some b → w5.heap[b]? = w.heap[b]?) ∧ w.heap.size ≤ w5.heap.size ∧ (∀ b, v'.ownBlock = some b → v.ownBlock = some b ∨ w.heap.size ≤ b) ∧
      ∃ G', Le 0 G G' ∧ Ext G G' ∧ TypedE E w5 G' ∧ Et G' v' (n + 1) w5 := by
  obtain ⟨ii, k1, k2, k3, k4⟩ := info_parts info91
  obtain ⟨xs, hx, hxs⟩ := B.own
  have hsz := T.size
  have hown : (w.alloc (.cells #[.string s, .int .u64 tg, .bool su] 91)).ownsRow G.w0.heap.size 91 3 v n xs := own_of_block hx (fun b hb => alloc_lt _ _ (own_lt hx hb))
  obtain ⟨v', w5, hr, h1, h2, h3, h4⟩ := run_append_own_at (P := Try.prog) (w.alloc (.cells #[.string s, .int .u64 tg, .bool su] 91)) G.w0.heap.size 41 ty 91 ii _ 3 32 Try.underlying41 k1 k2 k3 k4 rfl (by omega) v n xs hown ⟨w.heap.size, 0, none⟩ 1 1 [.string s, .int .u64 tg, .bool su] rfl (fun j u hj => by
    have e : (w.alloc (.cells #[.string s, .int .u64 tg, .bool su] 91)).heap[w.heap.size]? = some (.cells #[.string s, .int .u64 tg, .bool su] 91 (0, 0)) := (MapKept.heap_alloc w _).1
    have ea : (⟨w.heap.size, 0, none⟩ : Addr).add j = ⟨w.heap.size, j, none⟩ := by simp [Addr.add]; omega
    rw [ea, cell_of e]
    simpa using hj) (by simp [Value.oneCell']) (by unfold maxLen; omega) (by omega) (by rw [alloc_size]; omega)
  have hf := T.fr _ (Nat.le_refl _)
  have T3 := T.alloc (o := .cells #[.string s, .int .u64 tg, .bool su] 91) kAny trivial ⟨by simp, by simp, by simp, by simp, by simp⟩
  have same : ∀ b, b < w.heap.size → (G.put w.heap.size kAny).kd b = G.kd b := fun b hb => Gh.put_ne _ _ (by omega)
  have T5 := T3.grown h2 (fun b hb => .inr (by rw [same b (own_lt hx hb)]; exact B.vk b hb))
  have hle : w.heap.size ≤ w5.heap.size := by have := h2.size; rw [alloc_size] at this; omega
  refine ⟨v', w5, hr, own_shape h1, fun b hb hne => ?_, hle, fun b hb => ?_, _, ((Le.put _ (by rw [hf])).trans (Le.grow T3 w5.heap.size)).mono (by omega), ?_, T5, fun b hb => ?_, ⟨(xs ++ [Value.string s, Value.int .u64 tg, Value.bool su] : List Value), h1, fun i hi => ?_⟩, fun h => by omega⟩
  · rw [h2.block b (by rw [alloc_size]; omega) (fun e => hne e.symm)]; exact alloc_lt _ _ hb
  · rcases h4 with h | h
    · exact .inl (by rw [← h]; exact hb)
    · rw [hb] at h; cases h; exact .inr (by rw [alloc_size]; omega)
  · refine ⟨rfl, rfl, rfl, rfl, rfl, rfl, Nat.le_refl _, fun b => ?_⟩
    rcases Nat.lt_or_ge b w.heap.size with h | h
    · exact .inr (.inr (.inr (.inl (by rw [Gh.grow_lt _ (by rw [alloc_size]; omega), same b h]))))
    · exact .inl (by rw [T.fr b h])
  · rcases h4 with h | h
    · rw [hb] at h
      have hl := own_lt hx h.symm
      rw [Gh.grow_lt _ (by rw [alloc_size]; omega), same b hl]; exact B.vk b h.symm
    · rw [hb] at h; cases h
      rw [Gh.grow_in _ (Nat.le_refl _) (own_lt h1 hb)]
  · have hl := hx.1
    by_cases e : i < n
    · obtain ⟨s', tg', su', j1, j2, j3, j4⟩ := hxs i e
      exact ⟨s', tg', su', ⟨j1.1, j1.2⟩, by rw [List.getElem?_append_left (by omega)]; exact j2, by rw [List.getElem?_append_left (by omega)]; exact j3, by rw [List.getElem?_append_left (by omega)]; exact j4⟩
    · have : i = n := by omega
      subst this
      refine ⟨s, tg, su, ⟨hs, ht⟩, ?_, ?_, ?_⟩
      · rw [List.getElem?_append_right (by omega), show 3 * i - xs.length = 0 by omega]; rfl
      · rw [List.getElem?_append_right (by omega), show 3 * i + 1 - xs.length = 1 by omega]; rfl
      · rw [List.getElem?_append_right (by omega), show 3 * i + 2 - xs.length = 2 by omega]; rfl

/-- the row told -/
theorem Et.fin {E w G G0 v n} (T : TypedE E w G) (B : Et G v n w) (h5 : n ≤ 5) (L : Le 0 G0 G) (h0 : ∀ b, v.ownBlock = some b → (G0.kd b).t = 0) (hE : ∀ b, v.ownBlock = some b → ¬ E b) :
    ∃ G', Le 0 G0 G' ∧ Ext G G' ∧ TypedE E w G' ∧ EntOk G' v := by
  obtain ⟨xs, hx, hxs⟩ := B.own
  rcases hx.2 with ⟨rfl, rfl⟩ | ⟨g, cap, cur, rfl, k1, k2, k3, k4, k5, k6⟩
  · exact ⟨G, L, Ext.refl G, T, .inl rfl⟩
  · have hk := B.vk g rfl
    by_cases hn0 : n = 0
    · have := B.z hn0; cases this
    have X : Ext G (G.put g (kEnt n)) := Ext.put _ (.inr (.inr hk))
    have T2 := T.rekind (b := g) (kEnt n) (.inr (.inl hk)) k1 (fun o ho _ => by
      rw [k2] at ho; cases ho
      refine ⟨cur, rfl, fun i hi => ?_⟩
      have hi : i < n := hi
      obtain ⟨s, tg, su, j1, j2, j3, j4⟩ := hxs i hi
      rw [← k6] at j2 j3 j4
      rw [List.getElem?_take_of_lt (by omega)] at j2
      rw [List.getElem?_take_of_lt (by omega)] at j3
      rw [List.getElem?_take_of_lt (by omega)] at j4
      exact ⟨s, tg, su, ⟨j1.1.ext X, j1.2⟩, by simpa using j2, by simpa using j3, by simpa using j4⟩) ⟨by simp, by simp, by simp, by simp, by simp⟩
    refine ⟨G.put g (kEnt n), ⟨L.k, L.w0, L.lay, L.t0, L.t1, fun i => ?_⟩, X, T2, .inr ⟨g, n, cap, rfl, Gh.put_at _ _ _, h5, by omega⟩⟩
    by_cases e : i = g
    · subst e; exact .inl (h0 i rfl)
    · rw [Gh.put_ne _ _ e]; exact L.kd i
end Go.Proofs.Qxb6002353a
