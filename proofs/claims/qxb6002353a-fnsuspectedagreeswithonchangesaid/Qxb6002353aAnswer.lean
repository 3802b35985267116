/-
  SEAT b6002353a: answer.
-/
import Derived.Test.Qxb6002353aHolds
namespace Go.Proofs.Qxb6002353a
open Go.RowKit
set_option linter.unusedVariables false
set_option linter.unusedSimpArgs false

/-- one cell appended to an own row -/
theorem row_app {E w G v n} {xs : List Value} {u : Value} {t e : TypeId} {z : Value} {bytes : Nat} (ht : Try.prog.underlying t = some (.slice e)) (hi : (Try.prog.info? e).map (fun i => (i.zero, i.size, i.bytes)) = some (some z, 1, bytes)) (hz : z.cells.size = 1) (hb : bytes ≤ 16)
    (T : TypedE E w G) (hx : w.ownsRow G.w0.heap.size e 1 v n xs) (hv : ∀ b, v.ownBlock = some b → (G.kd b).t = 15) (hn : n ≤ 1000) (h1 : u.oneCell' = true) (ty : TypeId) :
    ∃ v' w5, (Builtin.append_ #[t, t] ty #[v, .slice (some ⟨w.heap.size, 0, none⟩) 1 1]).run Try.prog (w.alloc (.cells #[u] e)) = .ok v' w5 ∧ (∃ g c, v' = .slice (some ⟨g, 0, none⟩) (n + 1) c) ∧
      (∀ b, b < w.heap.size → v.ownBlock ≠ some b → w5.heap[b]? = w.heap[b]?) ∧ w.heap.size ≤ w5.heap.size ∧ (∀ b, v'.ownBlock = some b → v.ownBlock = some b ∨ w.heap.size ≤ b) ∧ w5.ownsRow G.w0.heap.size e 1 v' (n + 1) (xs ++ [u]) ∧
      ∃ G', Le 0 G G' ∧ Ext G G' ∧ TypedE E w5 G' ∧ (∀ b, v'.ownBlock = some b → (G'.kd b).t = 15) ∧ (∀ b, b < w.heap.size → G'.kd b = G.kd b) := by
  obtain ⟨ii, k1, k2, k3, k4⟩ := info_parts hi
  have hsz := T.size
  have hown : (w.alloc (.cells #[u] e)).ownsRow G.w0.heap.size e 1 v n xs := own_of_block hx (fun b hb => alloc_lt _ _ (own_lt hx hb))
  have hnb : (n + 1) * bytes ≤ 140737488355328 := by
    have : (n + 1) * bytes ≤ (n + 1) * 16 := Nat.mul_le_mul_left _ hb
    omega
  obtain ⟨v', w5, hr, j1, j2, j3, j4⟩ := run_append_own_at (P := Try.prog) (w.alloc (.cells #[u] e)) G.w0.heap.size t ty e ii z 1 bytes ht k1 k2 k3 k4 hz (by omega) v n xs hown ⟨w.heap.size, 0, none⟩ 1 1 [u] rfl (cell_one_new w u e) (by simpa using h1) (by unfold maxLen; omega) hnb (by rw [alloc_size]; omega)
  have hf := T.fr _ (Nat.le_refl _)
  have T3 := T.alloc (o := .cells #[u] e) kAny trivial ⟨by simp, by simp, by simp, by simp, by simp⟩
  have same : ∀ b, b < w.heap.size → (G.put w.heap.size kAny).kd b = G.kd b := fun b hb => Gh.put_ne _ _ (by omega)
  have T5 := T3.grown j2 (fun b hb => .inr (by rw [same b (own_lt hx hb)]; exact hv b hb))
  have hle : w.heap.size ≤ w5.heap.size := by have := j2.size; rw [alloc_size] at this; omega
  have same5 : ∀ b, b < w.heap.size → ((G.put w.heap.size kAny).grow (w.alloc (.cells #[u] e)).heap.size w5.heap.size).kd b = G.kd b := fun b h => by
    rw [Gh.grow_lt _ (by rw [alloc_size]; omega), same b h]
  refine ⟨v', w5, hr, own_shape j1, fun b hb hne => ?_, hle, fun b hb => ?_, j1, (G.put w.heap.size kAny).grow (w.alloc (.cells #[u] e)).heap.size w5.heap.size, ((Le.put _ (by rw [hf])).trans (Le.grow T3 w5.heap.size)).mono (by omega), ?_, T5, fun b hb => ?_, same5⟩
  · rw [j2.block b (by rw [alloc_size]; omega) (fun e => hne e.symm)]; exact alloc_lt _ _ hb
  · rcases j4 with h | h
    · exact .inl (by rw [← h]; exact hb)
    · rw [hb] at h; cases h; exact .inr (by rw [alloc_size]; omega)
  · refine ⟨rfl, rfl, rfl, rfl, rfl, rfl, Nat.le_refl _, fun b => ?_⟩
    rcases Nat.lt_or_ge b w.heap.size with h | h
    · exact .inr (.inr (.inr (.inl (same5 b h).symm)))
    · exact .inl (by rw [T.fr b h])
  · rcases j4 with h | h
    · rw [hb] at h
      rw [same5 b (own_lt hx h.symm)]; exact hv b h.symm
    · rw [hb] at h; cases h
      rw [Gh.grow_in _ (Nat.le_refl _) (own_lt j1 hb)]

/-- the message's block while its answers are built -/
structure MHalf (G0 : Gh) (w0 : World) (G : Gh) (mb j1 j2 : Nat) (mv : MV) (w : World) : Prop where
  T : TypedE (fun b => b = mb) w G
  A : Agree G
  L : Le 0 G0 G
  m0 : G0.kd mb = kMsg
  o : w.heap[mb]? = some (.cells mv.arr 44 (0, 0))
  fr : ID G mv.fr
  ps : EntOk G mv.ps
  k1 : ∀ b, mv.an.ownBlock = some b → (G.kd b).t = 15 ∧ w0.heap.size ≤ b
  k2 : ∀ b, mv.rs.ownBlock = some b → (G.kd b).t = 15 ∧ w0.heap.size ≤ b
  ne : ∀ b, mv.an.ownBlock = some b → mv.rs.ownBlock ≠ some b
  own1 : ∃ xs, w.ownsRow G.w0.heap.size 9 1 mv.an j1 xs ∧ ∀ u ∈ xs, ∃ s, u = Value.string s
  own2 : ∃ xs, w.ownsRow G.w0.heap.size 40 1 mv.rs j2 xs ∧ ∀ u ∈ xs, ∃ z, u = Value.int .u64 z
  s1 : ∃ b c, mv.an = .slice (some ⟨b, 0, none⟩) j1 c
  s2 : ∃ b c, mv.rs = .slice (some ⟨b, 0, none⟩) j2 c
  sz : w0.heap.size ≤ w.heap.size

theorem MHalf.mk' {G0 w0 G mb j1 j2 mv w} (h : MHalf G0 w0 G mb j1 j2 mv w) : G.kd mb = kMsg ∧ mb < w.heap.size := by
  have e := h.L.up h.m0 (by simp) (by simp) (by simp)
  exact ⟨e, h.T.lt e (by simp)⟩

theorem MHalf.app1 {G0 w0 G mb j1 j2 mv w} {s : ByteArray} (h : MHalf G0 w0 G mb j1 j2 mv w) (hj : j1 ≤ 1000) (ty : TypeId) :
    ∃ g c w5, (Builtin.append_ #[33, 33] ty #[mv.an, .slice (some ⟨w.heap.size, 0, none⟩) 1 1]).run Try.prog (w.alloc (.cells #[.string s] 9)) = .ok (.slice (some ⟨g, 0, none⟩) (j1 + 1) c) w5 ∧ w5.heap[mb]? = w.heap[mb]? ∧
      ∃ G', Le 0 G G' ∧ MHalf G0 w0 G' mb (j1 + 1) j2 { mv with an := .slice (some ⟨g, 0, none⟩) (j1 + 1) c } (w5.setCell ⟨mb, 8, none⟩ (.slice (some ⟨g, 0, none⟩) (j1 + 1) c)) := by
  obtain ⟨xs, hx, hxs⟩ := h.own1
  obtain ⟨hk, hlt⟩ := h.mk'
  obtain ⟨v', w5, hr, ⟨g, c, rfl⟩, f1, f2, f3, ho, G', L', X', T', vk, same⟩ := row_app (u := .string s) Try.underlying33 info9 rfl (by omega) h.T hx (fun b hb => (h.k1 b hb).1) hj rfl ty
  have e1 : w5.heap[mb]? = w.heap[mb]? := f1 mb hlt (fun e => by have := (h.k1 _ e).1; rw [hk] at this; cases this)
  have gne : ∀ b, (Value.slice (some ⟨g, 0, none⟩) (j1 + 1) c).ownBlock = some b → b ≠ mb := fun b hb e => by
    have := vk b hb
    rw [e, L'.up hk (by simp) (by simp) (by simp)] at this; cases this
  have r2 : ∀ b, mv.rs.ownBlock = some b → w5.heap[b]? = w.heap[b]? ∧ b < w.heap.size := fun b hb => by
    obtain ⟨ys, hy, _⟩ := h.own2
    have hl := own_lt hy hb
    exact ⟨f1 b hl (fun e => h.ne b e hb), hl⟩
  refine ⟨g, c, w5, hr, e1, G', L', T'.setE (.inl rfl), h.A.ext X', (h.L.trans L').mono (by omega), h.m0, ?_, h.fr.ext X', h.ps.ext X', fun b hb => ⟨vk b hb, ?_⟩, fun b hb => ?_, fun b hb e => ?_, ⟨xs ++ [.string s], ?_, ?_⟩, ?_, ⟨g, c, rfl⟩, h.s2, ?_⟩
  · rw [setCell_at (e1.trans h.o)]; rfl
  · rcases f3 b hb with h' | h'
    · exact (h.k1 b h').2
    · have := h.sz; omega
  · rw [same b (r2 b hb).2]; exact h.k2 b hb
  · have h2 := (r2 b e).2
    rcases f3 b hb with h' | h'
    · exact h.ne b h' e
    · omega
  · rw [L'.w0]; exact own_of_block ho (fun b hb => setCell_other (gne b hb))
  · intro u hu
    rcases List.mem_append.1 hu with h' | h'
    · exact hxs u h'
    · simp at h'; exact ⟨s, h'⟩
  · obtain ⟨ys, hy, hys⟩ := h.own2
    refine ⟨ys, ?_, hys⟩
    rw [L'.w0]
    refine own_of_block hy (fun b hb => ?_)
    have hne : b ≠ mb := fun e => by have := (h.k2 b hb).1; rw [e, hk] at this; cases this
    rw [setCell_other hne]; exact (r2 b hb).1
  · have e : (w5.setCell ⟨mb, 8, none⟩ (.slice (some ⟨g, 0, none⟩) (j1 + 1) c)).heap.size = w5.heap.size := by simp [World.setCell]
    have := h.sz
    rw [e]; omega

theorem MHalf.app2 {G0 w0 G mb j1 j2 mv w} {z : Int} (h : MHalf G0 w0 G mb j1 j2 mv w) (hj : j2 ≤ 1000) (ty : TypeId) :
    ∃ g c w5, (Builtin.append_ #[42, 42] ty #[mv.rs, .slice (some ⟨w.heap.size, 0, none⟩) 1 1]).run Try.prog (w.alloc (.cells #[.int .u64 z] 40)) = .ok (.slice (some ⟨g, 0, none⟩) (j2 + 1) c) w5 ∧ w5.heap[mb]? = w.heap[mb]? ∧
      ∃ G', Le 0 G G' ∧ MHalf G0 w0 G' mb j1 (j2 + 1) { mv with rs := .slice (some ⟨g, 0, none⟩) (j2 + 1) c } (w5.setCell ⟨mb, 9, none⟩ (.slice (some ⟨g, 0, none⟩) (j2 + 1) c)) := by
  obtain ⟨xs, hx, hxs⟩ := h.own2
  obtain ⟨hk, hlt⟩ := h.mk'
  obtain ⟨v', w5, hr, ⟨g, c, rfl⟩, f1, f2, f3, ho, G', L', X', T', vk, same⟩ := row_app (u := .int .u64 z) Try.underlying42 info40 rfl (by omega) h.T hx (fun b hb => (h.k2 b hb).1) hj rfl ty
  have e1 : w5.heap[mb]? = w.heap[mb]? := f1 mb hlt (fun e => by have := (h.k2 _ e).1; rw [hk] at this; cases this)
  have gne : ∀ b, (Value.slice (some ⟨g, 0, none⟩) (j2 + 1) c).ownBlock = some b → b ≠ mb := fun b hb e => by
    have := vk b hb
    rw [e, L'.up hk (by simp) (by simp) (by simp)] at this; cases this
  have r2 : ∀ b, mv.an.ownBlock = some b → w5.heap[b]? = w.heap[b]? ∧ b < w.heap.size := fun b hb => by
    obtain ⟨ys, hy, _⟩ := h.own1
    have hl := own_lt hy hb
    exact ⟨f1 b hl (fun e => h.ne b hb e), hl⟩
  refine ⟨g, c, w5, hr, e1, G', L', T'.setE (.inl rfl), h.A.ext X', (h.L.trans L').mono (by omega), h.m0, ?_, h.fr.ext X', h.ps.ext X', fun b hb => ?_, fun b hb => ⟨vk b hb, ?_⟩, fun b hb e => ?_, ?_, ⟨xs ++ [.int .u64 z], ?_, ?_⟩, h.s1, ⟨g, c, rfl⟩, ?_⟩
  · rw [setCell_at (e1.trans h.o)]; rfl
  · rw [same b (r2 b hb).2]; exact h.k1 b hb
  · rcases f3 b hb with h' | h'
    · exact (h.k2 b h').2
    · have := h.sz; omega
  · have h2 := (r2 b hb).2
    rcases f3 b e with h' | h'
    · exact h.ne b hb h'
    · omega
  · obtain ⟨ys, hy, hys⟩ := h.own1
    refine ⟨ys, ?_, hys⟩
    rw [L'.w0]
    refine own_of_block hy (fun b hb => ?_)
    have hne : b ≠ mb := fun e => by have := (h.k1 b hb).1; rw [e, hk] at this; cases this
    rw [setCell_other hne]; exact (r2 b hb).1
  · rw [L'.w0]; exact own_of_block ho (fun b hb => setCell_other (gne b hb))
  · intro u hu
    rcases List.mem_append.1 hu with h' | h'
    · exact hxs u h'
    · simp at h'; exact ⟨z, h'⟩
  · have e : (w5.setCell ⟨mb, 9, none⟩ (.slice (some ⟨g, 0, none⟩) (j2 + 1) c)).heap.size = w5.heap.size := by simp [World.setCell]
    have := h.sz
    rw [e]; omega

/-- the message whole again -/
theorem MHalf.fin {G0 w0 G mb j mv w} (T0 : Typed w0 G0) (h : MHalf G0 w0 G mb j j mv w) (h5 : j ≤ 5) : ∃ G', Le 0 G0 G' ∧ Typed w G' := by
  obtain ⟨hk, hlt⟩ := h.mk'
  obtain ⟨b1, c1, e1⟩ := h.s1
  obtain ⟨b2, c2, e2⟩ := h.s2
  obtain ⟨xs, hx, hxs⟩ := h.own1
  obtain ⟨ys, hy, hys⟩ := h.own2
  have q1 := h.k1 b1 (by rw [e1]; rfl)
  have q2 := h.k2 b2 (by rw [e2]; rfl)
  have hne : b1 ≠ b2 := fun e => h.ne b1 (by rw [e1]; rfl) (by rw [e2, e]; rfl)
  rw [e1] at hx
  rw [e2] at hy
  rcases hx.2 with ⟨h', _⟩ | ⟨g1, cap1, cur1, e1', x1, x2, x3, x4, x5, x6⟩
  · cases h'
  rcases hy.2 with ⟨h', _⟩ | ⟨g2, cap2, cur2, e2', y1, y2, y3, y4, y5, y6⟩
  · cases h'
  cases e1'
  cases e2'
  have X1 : Ext G (G.put b1 (kStr j)) := Ext.put _ (.inr (.inr q1.1))
  have T1 := h.T.rekind (b := b1) (kStr j) (.inr (.inl q1.1)) x1 (fun o ho _ => by
    rw [x2] at ho; cases ho
    refine ⟨cur1, rfl, fun i hi => ?_⟩
    have hi : i < j := hi
    have hl : i < xs.length := by have := hx.1; omega
    obtain ⟨s, hs⟩ := hxs xs[i] (List.getElem_mem hl)
    refine ⟨s, ?_⟩
    have : xs[i]? = some (.string s) := by rw [← hs]; simp [hl]
    rw [← x6, List.getElem?_take_of_lt (by omega)] at this
    simpa using this) ⟨by simp, by simp, by simp, by simp, by simp⟩
  have p2 : ((G.put b1 (kStr j)).kd b2).t = 15 := by rw [Gh.put_ne _ _ hne.symm]; exact q2.1
  have X2 : Ext (G.put b1 (kStr j)) ((G.put b1 (kStr j)).put b2 (kU64 j)) := Ext.put _ (.inr (.inr p2))
  have T2 := T1.rekind (b := b2) (kU64 j) (.inr (.inl p2)) y1 (fun o ho _ => by
    rw [y2] at ho; cases ho
    refine ⟨cur2, rfl, fun i hi => ?_⟩
    have hi : i < j := hi
    have hl : i < ys.length := by have := hy.1; omega
    obtain ⟨s, hs⟩ := hys ys[i] (List.getElem_mem hl)
    refine ⟨s, ?_⟩
    have : ys[i]? = some (.int .u64 s) := by rw [← hs]; simp [hl]
    rw [← y6, List.getElem?_take_of_lt (by omega)] at this
    simpa using this) ⟨by simp, by simp, by simp, by simp, by simp⟩
  have m1 : mb ≠ b1 := fun e => by have := q1.1; rw [← e, hk] at this; cases this
  have m2 : mb ≠ b2 := fun e => by have := q2.1; rw [← e, hk] at this; cases this
  have hmk : ((G.put b1 (kStr j)).put b2 (kU64 j)).kd mb = kMsg := by rw [Gh.put_ne _ _ m2, Gh.put_ne _ _ m1]; exact hk
  refine ⟨(G.put b1 (kStr j)).put b2 (kU64 j), ⟨h.L.k, h.L.w0, h.L.lay, h.L.t0, h.L.t1, fun i => ?_⟩, T2.shut ?_, h.A⟩
  · by_cases i2 : i = b2
    · subst i2; exact .inl (by rw [T0.T.fr i q2.2])
    · by_cases i1 : i = b1
      · subst i1; exact .inl (by rw [T0.T.fr i q1.2])
      · rw [Gh.put_ne _ _ i2, Gh.put_ne _ _ i1]; exact h.L.kd i
  · rintro b o rfl - ho
    rw [hmk]
    rw [h.o] at ho
    cases ho
    exact ⟨mv, rfl, (h.fr.ext X1).ext X2, (h.ps.ext X1).ext X2, .inr ⟨b1, b2, j, c1, c2, e1, e2, by rw [Gh.put_ne _ _ hne]; exact Gh.put_at _ _ _, Gh.put_at _ _ _, h5⟩⟩

theorem MHalf.start {w W G mb b1 b2 c} {R1 R2 : Array Value} {mv : MV} (T : Typed w G) (hk : G.kd mb = kMsg) (hf : ID G mv.fr) (hp : EntOk G mv.ps) (h1 : W.os = w.os) (h2 : W.tape = w.tape) (h3 : W.output = w.output) (h4 : W.heap.size = w.heap.size + 2) (h5 : ∀ b, b < w.heap.size → b ≠ mb → W.heap[b]? = w.heap[b]?)
    (hb : (b1 = w.heap.size ∧ b2 = w.heap.size + 1) ∨ (b2 = w.heap.size ∧ b1 = w.heap.size + 1)) (r1 : W.heap[b1]? = some (.cells R1 9 (0, 0))) (r2 : W.heap[b2]? = some (.cells R2 40 (0, 0))) (z1 : R1.size = c) (z2 : R2.size = c) (hc : c ≤ 100000)
    (hm : W.heap[mb]? = some (.cells ({ mv with an := .slice (some ⟨b1, 0, none⟩) 0 c, rs := .slice (some ⟨b2, 0, none⟩) 0 c } : MV).arr 44 (0, 0))) :
    ∃ G', MHalf G w G' mb 0 0 { mv with an := .slice (some ⟨b1, 0, none⟩) 0 c, rs := .slice (some ⟨b2, 0, none⟩) 0 c } W := by
  have T1 := (T.T.weaken (E' := fun b => b = mb) (fun _ h => h.elim)).alloc (o := .map #[] 0) kAny trivial ⟨by simp, by simp, by simp, by simp, by simp⟩
  have T2 := T1.alloc (o := .map #[] 0) kAny trivial ⟨by simp, by simp, by simp, by simp, by simp⟩
  have hf0 := T.T.fr _ (Nat.le_refl _)
  have hf1 := T1.fr _ (Nat.le_refl _)
  have L : Le 0 G ((G.put w.heap.size kAny).put (w.alloc (.map #[] 0)).heap.size kAny) := ((Le.put _ (by rw [hf0])).trans (Le.put _ (by rw [hf1]))).mono (by omega)
  have X1 : Ext G (G.put w.heap.size kAny) := Ext.put _ (.inl (by rw [hf0]))
  have X2 : Ext (G.put w.heap.size kAny) ((G.put w.heap.size kAny).put (w.alloc (.map #[] 0)).heap.size kAny) := Ext.put _ (.inl (by rw [hf1]))
  have hsz := T.T.size
  have ha : ∀ b, b = w.heap.size ∨ b = w.heap.size + 1 → ((G.put w.heap.size kAny).put (w.alloc (.map #[] 0)).heap.size kAny).kd b = kAny := fun b hb => by
    rw [alloc_size]
    rcases hb with rfl | rfl
    · rw [Gh.put_ne _ _ (by omega), Gh.put_at]
    · rw [Gh.put_at]
  have hlt := T.T.lt hk (by simp)
  have b1' : b1 = w.heap.size ∨ b1 = w.heap.size + 1 := by omega
  have b2' : b2 = w.heap.size ∨ b2 = w.heap.size + 1 := by omega
  have os2 : ((w.alloc (.map #[] 0)).alloc (.map #[] 0)).heap.size = w.heap.size + 2 := by rw [alloc_size, alloc_size]
  refine ⟨_, T2.heap h1 h2 h3 (h4.trans os2.symm) ?_, T.A, L, hk, hm, (hf.ext X1).ext X2, (hp.ext X1).ext X2, fun b hb => ?_, fun b hb => ?_, fun b hb e => ?_, ⟨[], ⟨rfl, .inr ⟨b1, c, R1, rfl, ?_, r1, by omega, by unfold maxLen; omega, by omega, by simp⟩⟩, by simp⟩, ⟨[], ⟨rfl, .inr ⟨b2, c, R2, rfl, ?_, r2, by omega, by unfold maxLen; omega, by omega, by simp⟩⟩, by simp⟩, ⟨b1, c, rfl⟩, ⟨b2, c, rfl⟩, by omega⟩
  · intro b o ho hE
    rcases Nat.lt_or_ge b w.heap.size with h | h
    · rw [h5 b h hE] at ho
      refine T2.ok b o ?_ hE
      rw [alloc_lt _ _ (by rw [alloc_size]; omega), alloc_lt _ _ h]; exact ho
    · have : b < W.heap.size := (Array.getElem?_eq_some_iff.1 ho).1
      rw [ha b (by omega)]; trivial
  · cases hb; rw [ha _ b1']; exact ⟨rfl, by show w.heap.size ≤ b1; omega⟩
  · cases hb; rw [ha _ b2']; exact ⟨rfl, by show w.heap.size ≤ b2; omega⟩
  · cases hb; cases e; omega
  · show G.w0.heap.size ≤ b1; omega
  · show G.w0.heap.size ≤ b2; omega

theorem RowOk.cellE {E w G x b n c} (T : TypedE E w G) (h : RowOk G x b n c) (hE : ∀ b, (G.kd b).t = 8 → ¬ E b) {i : Nat} (hi : i < n) : ∃ p s, w.cell? ⟨b, i, none⟩ = some (.pointer (some ⟨p, 0, none⟩)) ∧ G.kd p = kPeer x s := by
  obtain ⟨n', h1, h2, h3⟩ := h
  obtain ⟨o, k1, arr, rfl, k2, k3⟩ := T.obj h1 (by simp) (hE b (by rw [h1]))
  obtain ⟨p, s, j1, j2⟩ := k3 i (by show i < n'; omega)
  exact ⟨p, s, by rw [cell_of k1]; exact j1, j2⟩
theorem MHalf.peer0 {G0 w0 G mb j1 j2 mv w x s pb} {z : Int} (h : MHalf G0 w0 G mb j1 j2 mv w) (hp : G.kd pb = kPeer x s) : MHalf G0 w0 G mb j1 j2 mv (w.setCell ⟨pb, 2, none⟩ (.int .u64 z)) := by
  obtain ⟨hk, hlt⟩ := h.mk'
  refine ⟨h.T.p2 hp, h.A, h.L, h.m0, ?_, h.fr, h.ps, h.k1, h.k2, h.ne, ?_, ?_, h.s1, h.s2, ?_⟩
  · rw [setCell_other (fun e => by rw [← e, hk] at hp; cases hp)]; exact h.o
  · obtain ⟨xs, h1, h2⟩ := h.own1
    exact ⟨xs, own_of_block h1 (fun b hb => setCell_other (fun e => by have := (h.k1 b hb).1; rw [e, hp] at this; cases this)), h2⟩
  · obtain ⟨xs, h1, h2⟩ := h.own2
    exact ⟨xs, own_of_block h1 (fun b hb => setCell_other (fun e => by have := (h.k2 b hb).1; rw [e, hp] at this; cases this)), h2⟩
  · have := h.sz
    have e : (w.setCell ⟨pb, 2, none⟩ (.int .u64 z)).heap.size = w.heap.size := by simp [World.setCell]
    rw [e]; exact this
theorem MHalf.drew {G0 w0 G mb j1 j2 mv w} (h : MHalf G0 w0 G mb j1 j2 mv w) : MHalf G0 w0 G mb j1 j2 mv w.drew := ⟨h.T.drew, h.A, h.L, h.m0, h.o, h.fr, h.ps, h.k1, h.k2, h.ne, h.own1, h.own2, h.s1, h.s2, h.sz⟩
theorem size_set (w : World) (a : Addr) (v : Value) : (w.setCell a v).heap.size = w.heap.size := by simp [World.setCell]

set_option maxHeartbeats 8000000 in
set_option maxRecDepth 100000 in
theorem c29 {w G x mb} (T : Typed w G) (hx : x < G.k) (hmk : G.kd mb = kMsg) : Calls Try.prog 29 #[.pointer (some ⟨(G.lay x).nb, 0, none⟩), .pointer (some ⟨mb, 0, none⟩)] w fun e w' => Un 0 G e w' := by
  obtain ⟨v, vo, n⟩ := T.T.node hx id
  have nc7 := n.c7
  by_cases hak : v.ak = 0
  · rw [hak] at nc7
    have A := hid T
    clear T n vo hak
    go_enter Try.func29, Try.ntmps29
    go_wp2_with fail
    go_end0
    exact ⟨rfl, G, Le.refl G, A.out⟩
  · obtain ⟨ak, hake⟩ : ∃ ak : Nat, v.ak = (ak : Int) := ⟨v.ak.toNat, by have := vo.ak0; omega⟩
    have hak1 : ak ≤ 100000 := by have := vo.ak1; have := T.T.tb; omega
    have hak0 : ¬ ((ak : Int) = 0) := by omega
    have hak3 : ¬ ak = 0 := by omega
    rw [hake] at nc7
    obtain ⟨o, ho, mv, rfl, mo⟩ := T.T.obj hmk (by simp) id
    obtain ⟨R1, hR1, hm1⟩ : ∃ R1 : Array Value, R1.size = ak ∧ ∀ w, (Instr.makeSlice 33 (.int .i64 0) (.int .i64 (ak : Int))).run Try.prog w = .ok (.slice (some ⟨w.heap.size, 0, none⟩) 0 ak) (w.alloc (.cells R1 9)) := by
      obtain ⟨ii, k1, k2, k3, k4⟩ := info_parts info9
      refine ⟨madeCells (Value.string ⟨#[]⟩).cells ak, size_madeCells _ _, fun w => ?_⟩
      have hr := run_make (P := Try.prog) w 33 9 ii _ Try.underlying33 k1 k2 .i64 .i64 0 ak (by omega) (by omega) (by rw [k4]; omega) (by omega)
      rw [k3] at hr
      simpa using hr
    obtain ⟨R2, hR2, hm2⟩ : ∃ R1 : Array Value, R1.size = ak ∧ ∀ w, (Instr.makeSlice 42 (.int .i64 0) (.int .i64 (ak : Int))).run Try.prog w = .ok (.slice (some ⟨w.heap.size, 0, none⟩) 0 ak) (w.alloc (.cells R1 40)) := by
      obtain ⟨ii, k1, k2, k3, k4⟩ := info_parts info40
      refine ⟨madeCells (Value.int .u64 0).cells ak, size_madeCells _ _, fun w => ?_⟩
      have hr := run_make (P := Try.prog) w 42 40 ii _ Try.underlying42 k1 k2 .i64 .i64 0 ak (by omega) (by omega) (by rw [k4]; omega) (by omega)
      rw [k3] at hr
      simpa using hr
    have m8 : w.cell? ⟨mb, 8, none⟩ = some mv.an := (cell_of ho _).trans rfl
    have m9 : w.cell? ⟨mb, 9, none⟩ = some mv.rs := (cell_of ho _).trans rfl
    have mfz := fz_of ho
    have hmb : mb < w.heap.size := T.T.lt hmk (by simp)
    have hnb : (G.lay x).nb < w.heap.size := T.T.lt (T.T.nb x hx) (by simp)
    have hne : (G.lay x).nb ≠ mb := fun e => by have := T.T.nb x hx; rw [e, hmk] at this; cases this
    have HR := hid (And.intro hR1 hR2)
    have HO := hid (And.intro ho mo)
    have A := hid T
    have HM := hid hmk
    clear T n vo hR1 hR2 ho mo hmk hak
    go_enter Try.func29, Try.ntmps29
    go_upto_region 1 with fail
    go_cut [2] (fun s2 wd => ∃ G1 mv1, MHalf G w G1 mb 0 0 mv1 wd)
    case first =>
      go_region
      all_goals
        go_wp2_with fail
        go_meet
        case rel =>
          have hsz : ∀ u v : Value, ((w.setCell ⟨mb, 8, none⟩ u).setCell ⟨mb, 9, none⟩ v).heap.size = w.heap.size := fun u v => by rw [size_set, size_set]
          have first : ∀ (u v : Value) (o1 o2 : Obj), ((((w.setCell ⟨mb, 8, none⟩ u).setCell ⟨mb, 9, none⟩ v).alloc o1).alloc o2).heap[w.heap.size]? = some o1 := fun u v o1 o2 => by
            rw [alloc_lt _ _ (by rw [alloc_size, hsz]; omega)]
            have := (MapKept.heap_alloc ((w.setCell ⟨mb, 8, none⟩ u).setCell ⟨mb, 9, none⟩ v) o1).1
            rw [hsz] at this
            exact this
          have second : ∀ (u v : Value) (o1 o2 : Obj), ((((w.setCell ⟨mb, 8, none⟩ u).setCell ⟨mb, 9, none⟩ v).alloc o1).alloc o2).heap[w.heap.size + 1]? = some o2 := fun u v o1 o2 => by
            have := (MapKept.heap_alloc (((w.setCell ⟨mb, 8, none⟩ u).setCell ⟨mb, 9, none⟩ v).alloc o1) o2).1
            rw [alloc_size, hsz] at this
            exact this
          have other : ∀ (u v : Value) (o1 o2 : Obj), ∀ b, b < w.heap.size → b ≠ mb → ((((w.setCell ⟨mb, 8, none⟩ u).setCell ⟨mb, 9, none⟩ v).alloc o1).alloc o2).heap[b]? = w.heap[b]? := fun u v o1 o2 b hb hne => by
            rw [alloc_lt _ _ (by rw [alloc_size, hsz]; omega), alloc_lt _ _ (by rw [hsz]; omega), setCell_other hne, setCell_other hne]
          have atm : ∀ (u v : Value) (o1 o2 : Obj), ((((w.setCell ⟨mb, 8, none⟩ u).setCell ⟨mb, 9, none⟩ v).alloc o1).alloc o2).heap[mb]? = some (.cells ((mv.arr.setIfInBounds 8 u).setIfInBounds 9 v) 44 (0, 0)) := fun u v o1 o2 => by
            rw [alloc_lt _ _ (by rw [alloc_size, hsz]; omega), alloc_lt _ _ (by rw [hsz]; omega)]
            exact setCell_at (setCell_at HO.out.1)
          have size : ∀ (u v : Value) (o1 o2 : Obj), ((((w.setCell ⟨mb, 8, none⟩ u).setCell ⟨mb, 9, none⟩ v).alloc o1).alloc o2).heap.size = w.heap.size + 2 := fun u v o1 o2 => by rw [alloc_size, alloc_size, hsz]
          first
            | (obtain ⟨G1, h1⟩ := MHalf.start (W := ((((w.setCell ⟨mb, 8, none⟩ (.slice (some ⟨w.heap.size, 0, none⟩) 0 ak)).setCell ⟨mb, 9, none⟩ (.slice (some ⟨w.heap.size + 1, 0, none⟩) 0 ak)).alloc (.cells R1 9)).alloc (.cells R2 40))) (mv := mv) A.out HM.out HO.out.2.fr HO.out.2.ps rfl rfl rfl (size (.slice (some ⟨w.heap.size, 0, none⟩) 0 ak) (.slice (some ⟨w.heap.size + 1, 0, none⟩) 0 ak) (.cells R1 9) (.cells R2 40)) (other _ _ _ _) (.inl ⟨rfl, rfl⟩) (first _ _ _ _) (second _ _ _ _) HR.out.1 HR.out.2 hak1 (atm _ _ _ _)
               exact ⟨G1, _, h1.drew⟩)
            | (obtain ⟨G1, h1⟩ := MHalf.start (W := ((((w.setCell ⟨mb, 8, none⟩ (.slice (some ⟨w.heap.size + 1, 0, none⟩) 0 ak)).setCell ⟨mb, 9, none⟩ (.slice (some ⟨w.heap.size, 0, none⟩) 0 ak)).alloc (.cells R2 40)).alloc (.cells R1 9))) (mv := mv) A.out HM.out HO.out.2.fr HO.out.2.ps rfl rfl rfl (size (.slice (some ⟨w.heap.size + 1, 0, none⟩) 0 ak) (.slice (some ⟨w.heap.size, 0, none⟩) 0 ak) (.cells R2 40) (.cells R1 9)) (other _ _ _ _) (.inr ⟨rfl, rfl⟩) (second _ _ _ _) (first _ _ _ _) HR.out.1 HR.out.2 hak1 (atm _ _ _ _)
               exact ⟨G1, _, h1.drew⟩)
    case rest =>
      obtain ⟨G1, mv1, H1⟩ := hcut
      have hx1 : x < G1.k := by rw [H1.L.k]; exact hx
      have hl1 : G1.lay = G.lay := H1.L.lay
      have NOE : Hid (∀ (G' : Gh), Le 0 G1 G' → ∀ b, (G'.kd b).t ≠ 13 → ¬ (b = mb)) := fun G' L b hb e => hb (by rw [e, L.up H1.mk'.1 (by simp) (by simp) (by simp)])
      obtain ⟨v1, vo1, n1⟩ := H1.T.node hx1 (by rw [hl1]; exact hne)
      obtain ⟨bb, nn, c, hby, hnc, hn5, hrow⟩ := H1.T.by_row hx1 vo1.by_
      have nc5 := n1.c5
      rw [hl1, hby] at nc5
      have ROW := hid hrow
      have HH1 := hid H1
      clear n1 vo1 hrow hby H1 nc7 m8 m9 mfz hmb hnb hm1 hm2 HR HO
      go_wp2_with fail
      go_loopg [32] nn (fun k i wr => ∃ (j jj : Nat) (G2 : Gh) (mv2 : MV), j + k = nn ∧ i = .int .i64 j ∧ jj ≤ j ∧ Le 0 G1 G2 ∧ MHalf G w G2 mb jj jj mv2 wr)
      case atStart => exact ⟨0, 0, G1, mv1, by omega, rfl, by omega, Le.refl G1, HH1.out⟩
      case round =>
        obtain ⟨j, jj, G2, mv2, hj, rfl, hjj, L2, H2⟩ := hrel
        clear nc5
        have J := hid (And.intro hj hjj)
        by_cases hlt : j < nn
        · have hlt' : (j : Int) < (nn : Int) := by omega
          obtain ⟨pb, s, hc, hk⟩ := (ROW.out.le L2).cellE H2.T (fun b hb => NOE.out _ L2 b (by rw [hb]; simp)) hlt
          obtain ⟨pv, -, -, P⟩ := H2.T.peer hk (NOE.out _ L2 pb (by rw [hk]; simp))
          have pc0 := P.c0
          have pc2 := P.c2
          by_cases hpos : 0 < pv.as_
          · obtain ⟨g5, c5, w5, hr, e5, G3, L3, H3⟩ := MHalf.app1 (s := s) H2.drew (by omega) 33
            have m8 : wr.cell? ⟨mb, 8, none⟩ = some mv2.an := (cell_of H2.o _).trans rfl
            have q8 : w5.cell? ⟨mb, 8, none⟩ = some mv2.an := (cell_of (e5.trans H2.o) _).trans rfl
            have qf : w5.frozen? ⟨mb, 8, none⟩ = false := fz_of (e5.trans H2.o) _
            have hmb := H2.mk'.2
            have hpb : pb < wr.heap.size := H2.T.lt hk (by simp)
            have HR : Hid ((Builtin.append_ #[33, 33] 33 #[mv2.an, .slice (some ⟨wr.heap.size, 0, none⟩) 1 1]).run Try.prog (wr.alloc (.cells #[.string s] 9)).drew = .ok (.slice (some ⟨g5, 0, none⟩) (jj + 1) c5) w5) := hr
            have HH3 := hid H3
            have HK3 := hid (L3.up hk (by simp) (by simp) (by simp))
            have LL3 := hid ((L2.trans L3).mono (Nat.le_refl 0))
            clear hr H2 P L2 L3 H3 hk hj hjj
            go_upto_region 6 with fail
            go_cut [51] (fun s51 wd => MHalf G w G3 mb (jj + 1) jj { mv2 with an := .slice (some ⟨g5, 0, none⟩) (jj + 1) c5 } wd)
            case first =>
              go_region_law (refine step_append_run rfl (.tmp 45) (.tmp 50) 33 33 rfl mv2.an (.slice (some ⟨wr.heap.size, 0, none⟩) 1 1) (by simp [Act.eval, Act.put]) (by simp [Act.eval, Act.put]) HR.out ?_)
              all_goals
                go_wp2_with fail
                go_meet
                case rel => exact HH3.out
            case rest =>
              have H4 := hcut
              clear m8 q8 qf hmb hpb pc0 pc2 e5 hc HR HH3 hpos
              obtain ⟨pv4, -, -, P4⟩ := H4.T.peer HK3.out (NOE.out _ LL3.out pb (by rw [HK3.out]; simp))
              have pc2 := P4.c2
              obtain ⟨g6, c6, w6, hr, e6, G5, L5, H5⟩ := MHalf.app2 (z := pv4.as_) H4.drew (by have := J.out; omega) 42
              have m9 : wc.cell? ⟨mb, 9, none⟩ = some mv2.rs := (cell_of H4.o _).trans rfl
              have q9 : w6.cell? ⟨mb, 9, none⟩ = some mv2.rs := (cell_of (e6.trans H4.o) _).trans rfl
              have qf : w6.frozen? ⟨mb, 9, none⟩ = false := fz_of (e6.trans H4.o) _
              have hmb := H4.mk'.2
              have hpb : pb < wc.heap.size := H4.T.lt HK3.out (by simp)
              have HR : Hid ((Builtin.append_ #[42, 42] 42 #[mv2.rs, .slice (some ⟨wc.heap.size, 0, none⟩) 1 1]).run Try.prog (wc.alloc (.cells #[.int .u64 pv4.as_] 40)).drew = .ok (.slice (some ⟨g6, 0, none⟩) (jj + 1) c6) w6) := hr
              have HH5 := hid H5
              have HK5 := hid (L5.up HK3.out (by simp) (by simp) (by simp))
              have LL5 := hid ((LL3.out.trans L5).mono (Nat.le_refl 0))
              clear hr H4 P4 L5 H5 hcut HK3 LL3
              go_upto_region 7 with fail
              go_cut [64] (fun s64 wd => MHalf G w G5 mb (jj + 1) (jj + 1) { mv2 with an := .slice (some ⟨g5, 0, none⟩) (jj + 1) c5, rs := .slice (some ⟨g6, 0, none⟩) (jj + 1) c6 } wd)
              case first =>
                go_region_law (refine step_append_run rfl (.tmp 58) (.tmp 63) 42 42 rfl mv2.rs (.slice (some ⟨wc.heap.size, 0, none⟩) 1 1) (by simp [Act.eval, Act.put]) (by simp [Act.eval, Act.put]) HR.out ?_)
                all_goals
                  go_wp2_with fail
                  go_meet
                  case rel => exact HH5.out
              case rest =>
                have H6 := hcut
                clear m9 q9 qf hmb hpb pc2 e6 HR HH5
                obtain ⟨pv6, -, -, P6⟩ := H6.T.peer HK5.out (NOE.out _ LL5.out pb (by rw [HK5.out]; simp))
                have pc2 := P6.c2
                have pf := P6.fz 2
                have NX := hid (H6.peer0 (z := 0) HK5.out)
                clear H6 P6 hcut
                go_wp2_with fail
                go_roundg (gk - 1)
                case measure => have := J.out; omega
                case rel => exact ⟨j + 1, jj + 1, G5, _, by have := J.out; omega, rfl, by have := J.out; omega, LL5.out, NX.out⟩
          · have hle : pv.as_ ≤ 0 := by omega
            have NX := hid (And.intro L2 H2)
            clear hpos H2 P L2 hk hj hjj
            go_wp2_with fail
            go_roundg (gk - 1)
            case measure => have := J.out; omega
            case rel => exact ⟨j + 1, jj, G2, _, by have := J.out; omega, rfl, by have := J.out; omega, NX.out⟩
        · have hge : (nn : Int) ≤ (j : Int) := by omega
          obtain ⟨G3, L3, T3⟩ := H2.fin A.out (by omega)
          have hx3 : x < G3.k := by rw [L3.k]; exact hx
          have hl3 : G3.lay = G.lay := L3.lay
          obtain ⟨v3, vo3, n3⟩ := T3.T.node hx3 id
          have nc7 := n3.c7
          have nf7 := n3.fz 7
          have FIN : Hid (Typed (wr.setCell ⟨(G3.lay x).nb, 7, none⟩ (.int .i64 0)) G3) := ⟨T3.T.n7 hx3 (by omega) (by omega), T3.A⟩
          rw [hl3] at nc7 nf7
          have LL := hid L3
          clear T3 L3 vo3 n3 H2 L2 hj hjj
          go_wp2_with fail
          go_end0
          exact ⟨rfl, G3, LL.out, by rw [← hl3]; exact FIN.out⟩
end Go.Proofs.Qxb6002353a
