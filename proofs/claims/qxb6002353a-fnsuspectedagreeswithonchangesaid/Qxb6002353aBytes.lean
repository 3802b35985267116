/-
  SEAT b6002353a: a row of bytes that is appended to.
-/
import Derived.Test.Qxb6002353aOnC
import Derived.Deep.AppendSrc
namespace Go.Proofs.Qxb6002353a
open Go.RowKit
set_option linter.unusedVariables false
set_option linter.unusedSimpArgs false

structure Bt (G : Gh) (v : Value) (n : Nat) (w : World) : Prop where
  vk : ∀ b, v.ownBlock = some b → (G.kd b).t = 15
  own : ∃ xs, w.ownsRow G.w0.heap.size 5 1 v n xs ∧ ∀ u ∈ xs, ∃ z, u = Value.int .u8 z

/-- a number appended -/
theorem Bt.app {w G v n o v' w5} {xs ys : List Value} (T : Typed w G) (B : Bt G v n w) (hx : w.ownsRow G.w0.heap.size 5 1 v n xs) (hys : ∀ u ∈ ys, ∃ z, u = Value.int .u8 z) (hxs : ∀ u ∈ xs, ∃ z, u = Value.int .u8 z) (hown : w5.ownsRow G.w0.heap.size 5 1 v' (n + 1) (xs ++ ys)) (hg : (w.alloc o).grownBy w5 v.ownBlock) (hloc : v'.ownBlock = v.ownBlock ∨ v'.ownBlock = some (w.alloc o).heap.size) :
    ∃ G', Le 0 G G' ∧ Typed w5 G' ∧ Bt G' v' (n + 1) w5 := by
  have hf := T.T.fr _ (Nat.le_refl _)
  have T3 := T.T.alloc (o := o) kAny trivial ⟨by simp, by simp, by simp, by simp, by simp⟩
  have same : ∀ b, b < w.heap.size → (G.put w.heap.size kAny).kd b = G.kd b := fun b hb => Gh.put_ne _ _ (by omega)
  have T5 := T3.grown hg (fun b hb => .inr (by rw [same b (own_lt hx hb)]; exact B.vk b hb))
  refine ⟨_, ((Le.put _ (by rw [hf])).trans (Le.grow T3 w5.heap.size)).mono (by omega), ⟨T5, T.A⟩, fun b hb => ?_, xs ++ ys, hown, fun u hu => ?_⟩
  · rcases hloc with h | h
    · rw [hb] at h
      have hl := own_lt hx h.symm
      rw [Gh.grow_lt _ (by rw [alloc_size]; omega), same b hl]; exact B.vk b h.symm
    · rw [hb] at h; cases h
      rw [Gh.grow_in _ (Nat.le_refl _) (own_lt hown hb)]
  · rcases List.mem_append.1 hu with h | h
    · exact hxs u h
    · exact hys u h

def BPost (k : Nat) (G : Gh) (n : Nat) (e : Ending) (w' : World) : Prop := ∃ v' n' G', e = .returned v' ∧ Le 0 G G' ∧ Typed w' G' ∧ Bt G' v' n' w' ∧ n' ≤ n + k

set_option maxHeartbeats 4000000 in
set_option maxRecDepth 100000 in
theorem c84 {w G v n z} (T : Typed w G) (B : Bt G v n w) (hz : U64 z) (hn : n ≤ 90000) : Calls Try.prog 84 #[v, .int .u64 z] w fun e w' => BPost 10 G n e w' := by
  obtain ⟨ii, k1, k2, k3, k4⟩ := info_parts info5
  have A := hid T
  have BB := hid B
  have HZ := hid hz
  clear T B hz
  go_enter Try.func84, Try.ntmps84
  go_wp2_with fail
  go_loopg [0, 1] 9 (fun k a b wr => ∃ n' G' z', b = .int .u64 z' ∧ 0 ≤ z' ∧ z' < 2 * (128 : Int) ^ k ∧ n' + k ≤ n + 9 ∧ Le 0 G G' ∧ Typed wr G' ∧ Bt G' a n' wr)
  case atStart => exact ⟨n, G, z, rfl, HZ.out.1, by have := HZ.out.2; omega, Nat.le_refl _, Le.refl G, A.out, BB.out⟩
  case round =>
    obtain ⟨n1, G1, z1, rfl, z0, zb, hn1, L1, T1, B1⟩ := hrel
    obtain ⟨xs, hx, hxs⟩ := B1.own
    have hsz := T1.T.size
    have X := hid (And.intro T1 (And.intro B1 (And.intro hx (And.intro hxs L1))))
    have B1' := hid (show n1 + 1 ≤ maxLen by unfold maxLen; omega)
    have B2' := hid (show (n1 + 1) * 1 ≤ 140737488355328 by omega)
    have ZB := hid (And.intro zb hn1)
    clear T1 B1 hx hxs L1 zb hn1
    have HF1 : Hid (∀ y, (wr.alloc (.cells #[.int .u8 y] 5)).ownsRow G1.w0.heap.size 5 1 u0 n1 xs) := fun y => own_of_block X.out.2.2.1 (fun b hb => alloc_lt _ _ (own_lt X.out.2.2.1 hb))
    have HN : Hid (∀ y, ∀ j u, [Value.int .u8 y][j]? = some u → (wr.alloc (.cells #[.int .u8 y] 5)).cell? ((⟨wr.heap.size, 0, none⟩ : Addr).add j) = some u) := fun y => cell_one_new wr (.int .u8 y) 5
    have B3 : Hid (∀ y, G1.w0.heap.size ≤ (wr.alloc (.cells #[.int .u8 y] 5)).heap.size) := fun y => by rw [alloc_size]; omega
    by_cases hbig : 128 ≤ z1
    · go_wp2_with (at_builtin; refine wpList_append_own_at _ rfl (.tmp 7) (.tmp 11) 22 rfl G1.w0.heap.size 5 ii (.int .u8 0) 1 1 Try.underlying22 k1 k2 k3 k4 rfl (by omega) u0 n1 xs rfl (HF1.out _) ⟨wr.heap.size, 0, none⟩ 1 1 [.int .u8 _] rfl rfl (HN.out _) (by simp [Value.oneCell']) B1'.out B2'.out (B3.out _) ?_; intro v' w5 hown5 hg5 hnil5 hloc5; have H5 := hid (And.intro hown5 (And.intro hg5 hloc5)); clear hown5 hg5 hnil5 hloc5)
      go_roundg (gk - 1)
      case measure =>
        obtain ⟨h1, h2⟩ := ZB.out
        cases gk with
        | zero => simp at h1; omega
        | succ g => omega
      case rel =>
        obtain ⟨hown5, hg5, hloc5⟩ := H5.out
        obtain ⟨T1, B1, hx, hxs, L1⟩ := X.out
        obtain ⟨G2, L2, T2, B2⟩ := B1.app T1 hx (by simp) hxs hown5 hg5 hloc5
        obtain ⟨h1, h2⟩ := ZB.out
        cases gk with
        | zero => simp at h1; omega
        | succ g =>
          rw [Int.pow_succ] at h1
          simp only [Nat.add_sub_cancel]
          generalize (128 : Int) ^ g = p at h1 ⊢
          exact ⟨n1 + 1, G2, _, rfl, by omega, by omega, by omega, (L1.trans L2).mono (by omega), T2, B2⟩
    · have hsm : z1 < 128 := by omega
      go_wp2_with (at_builtin; refine wpList_append_own_at _ rfl (.tmp 15) (.tmp 18) 22 rfl G1.w0.heap.size 5 ii (.int .u8 0) 1 1 Try.underlying22 k1 k2 k3 k4 rfl (by omega) u0 n1 xs rfl (HF1.out _) ⟨wr.heap.size, 0, none⟩ 1 1 [.int .u8 _] rfl rfl (HN.out _) (by simp [Value.oneCell']) B1'.out B2'.out (B3.out _) ?_; intro v' w5 hown5 hg5 hnil5 hloc5; have H5 := hid (And.intro hown5 (And.intro hg5 hloc5)); clear hown5 hg5 hnil5 hloc5)
      go_ret
      obtain ⟨hown5, hg5, hloc5⟩ := H5.out
      obtain ⟨T1, B1, hx, hxs, L1⟩ := X.out
      obtain ⟨G2, L2, T2, B2⟩ := B1.app T1 hx (by simp) hxs hown5 hg5 hloc5
      exact ⟨_, n1 + 1, G2, rfl, (L1.trans L2).mono (by omega), T2, B2, by have := ZB.out.2; omega⟩

/-- an append whose run is known -/
theorem wpList_append_run {w : World} {ops : Array Oper} {rest : List Oper} {o : Oper} {a : Act} {Q : Exit → Act → World → Prop} (hgd : o.guard = none) (s x : Operand) (t tx : TypeId) (ho : o.op = .call { callee := .builtin .append, args := #[s, x], argTypes := #[t, tx] }) (v u : Value) (hs : a.eval s = v) (hx : a.eval x = u) {v' : Value} {w' : World}
    (hr : (Builtin.append_ #[t, tx] o.type #[v, u]).run Try.prog w = .ok v' w') (h : wpList Try.prog ops Q rest (a.put o.dst v') w') : wpList Try.prog ops Q (o :: rest) a w := by
  refine wpList_plain hgd fun K hK => ?_
  unfold Oper.wp execOp
  simp only [ho, resolve, invoke, builtin, Sem.run_bind, Sem.run_pure, Result.andThen_ok, List.map_toArray, List.map_cons, List.map_nil, hs, hx, hr]
  exact hK _ _ h

theorem nm_size (i : Nat) : (nm i).size = 1 := rfl
theorem nm_cells (i : Nat) : byteCells (nm i) = [.int .u8 ((97 + i).toUInt8.toNat : Int)] := rfl

/-- a name's byte appended -/
theorem app_str {w G v n} (T : Typed w G) (B : Bt G v n w) (i : Nat) (hn : n ≤ 90000) (ty : TypeId) : ∃ v' w5, (Builtin.append_ #[22, 9] ty #[v, .string (nm i)]).run Try.prog w = .ok v' w5 ∧ ∃ G', Le 0 G G' ∧ Typed w5 G' ∧ Bt G' v' (n + 1) w5 := by
  obtain ⟨ii, k1, k2, k3, k4⟩ := info_parts info5
  obtain ⟨xs, hx, hxs⟩ := B.own
  have src : Src Try.prog ii.size 9 (.string (nm i)) 1 (byteCells (nm i)) w := by rw [k3]; exact Src.ofString w Try.underlying9 (nm i)
  have hsz := T.T.size
  -- the grown row
  have grown : ∀ old, old < n + 1 → ∃ G', Le 0 G G' ∧ Typed (w.drew.alloc (.cells ((xs ++ byteCells (nm i)).toArray ++ Builtin.zeroCells (Value.int .u8 0).cells (grownCap w (n + 1) old 5 - (n + 1))) 5)) G' ∧ Bt G' (.slice (some ⟨w.heap.size, 0, none⟩) (n + 1) (grownCap w (n + 1) old 5)) (n + 1) (w.drew.alloc (.cells ((xs ++ byteCells (nm i)).toArray ++ Builtin.zeroCells (Value.int .u8 0).cells (grownCap w (n + 1) old 5 - (n + 1))) 5)) := by
    intro old ho
    have hge := grownCap_ge w (n + 1) old 5
    have hcm : grownCap w (n + 1) old 5 ≤ maxLen := grownCap_le_maxLen w (n + 1) old 5 (by unfold maxLen; omega)
    have hl := hx.1
    refine ⟨G.put w.heap.size kAny, Le.put _ (by rw [T.T.fr _ (Nat.le_refl _)]), ⟨T.T.drew.alloc kAny trivial ⟨by simp, by simp, by simp, by simp, by simp⟩, T.A⟩, fun b hb => by cases hb; rw [Gh.put_at], xs ++ byteCells (nm i), ⟨by rw [nm_cells]; simp; omega, .inr ⟨w.heap.size, _, _, rfl, hsz, heap_alloc_new w.drew _, hge, hcm, ?_, ?_⟩⟩, fun u hu => ?_⟩
    · simp only [Array.size_append, List.size_toArray, size_zeroCells, List.length_append, nm_cells, List.length_singleton]
      simp [Value.cells]
      omega
    · have e : (n + 1) * 1 = (xs ++ byteCells (nm i)).length := by rw [nm_cells]; simp; omega
      simp only [Array.toList_append]
      rw [e]
      exact List.take_left
    · rcases List.mem_append.1 hu with h | h
      · exact hxs u h
      · rw [nm_cells] at h; simp at h; exact ⟨_, h⟩
  rcases hx.2 with ⟨rfl, rfl⟩ | ⟨g, cap, cur, rfl, hbg, hg, hnc, hcm, hcs, htake⟩
  · have hx0 : xs = [] := List.eq_nil_of_length_eq_zero (by simpa using hx.1)
    have hr := run_append_grow_src (P := Try.prog) w 22 9 ty 5 ii (.int .u8 0) Try.underlying22 k1 k2 none 0 0 xs (by subst hx0; simp [Builtin.firstCells]) (.string (nm i)) 1 _ src (by omega) (by omega) (by rw [k4]; simp [Builtin.nextslicecap])
    exact ⟨_, _, hr, grown 0 (by omega)⟩
  · by_cases hroom : n + 1 ≤ cap
    · have hr := run_append_room_src (P := Try.prog) w 22 9 ty 5 ii Try.underlying22 k1 g 0 n cap (.string (nm i)) 1 _ src hroom (fun j hj => by
        rw [nm_cells] at hj
        simp at hj
        subst hj
        rw [k3, cell_of hg]
        simp; omega) (fun j hj => fz_of hg _)
      refine ⟨_, _, hr, G, (Le.refl G), ?_⟩
      have hgk := B.vk g rfl
      rw [nm_cells, k3]
      have e : w.setCells g (0 + n * 1) [.int .u8 ((97 + i).toUInt8.toNat : Int)] = w.setCell ⟨g, n, none⟩ (.int .u8 ((97 + i).toUInt8.toNat : Int)) := by simp [World.setCells]
      rw [e]
      refine ⟨⟨T.T.setE (.inr hgk), T.A⟩, fun b hb => by cases hb; exact hgk, xs ++ [.int .u8 ((97 + i).toUInt8.toNat : Int)], ⟨by have := hx.1; simp; omega, .inr ⟨g, cap, _, rfl, hbg, setCell_at hg, hroom, hcm, by simpa using hcs, ?_⟩⟩, fun u hu => ?_⟩
      · rw [Array.toList_setIfInBounds]
        simp only [Nat.mul_one] at htake ⊢
        have hlt : n < cur.toList.length := by simp; omega
        rw [List.take_add_one, List.take_set, htake]
        have : (xs.set n (.int .u8 ((97 + i).toUInt8.toNat : Int))) = xs := List.set_eq_of_length_le (by have := hx.1; omega)
        rw [this, List.getElem?_set_self hlt]
        rfl
      · rcases List.mem_append.1 hu with h | h
        · exact hxs u h
        · simp at h; exact ⟨_, h⟩
    · have holds : (Builtin.firstCells ii.size n (.slice (some ⟨g, 0, none⟩) n cap)).run Try.prog w.drew = .ok xs.toArray w.drew := by
        rw [k3]
        exact run_firstCells_some w.drew 1 n ⟨g, 0, none⟩ n cap xs hx.1 (hx.cells (g := g) rfl)
      have hr := run_append_grow_src (P := Try.prog) w 22 9 ty 5 ii (.int .u8 0) Try.underlying22 k1 k2 (some ⟨g, 0, none⟩) n cap xs holds (.string (nm i)) 1 _ src (by omega) (by omega) (by rw [k4]; exact growslice_fits (by omega) (by omega))
      exact ⟨_, _, hr, grown cap (by omega)⟩

set_option maxHeartbeats 4000000 in
set_option maxRecDepth 100000 in
theorem c85 {w G v n i} (T : Typed w G) (B : Bt G v n w) (hn : n ≤ 80000) : Calls Try.prog 85 #[v, .string (nm i)] w fun e w' => BPost 11 G n e w' := by
  have C := hid (c84 (z := 1) T B ⟨by omega, by omega⟩ (by omega))
  have hs : (nm i).size = 1 := nm_size i
  clear T B
  go_enter Try.func85, Try.ntmps85
  go_wp2_with fail
  refine C.out.mono ?_
  rintro e w' ⟨v1, n1, G1, rfl, L1, T1, B1, hn1⟩
  obtain ⟨v2, w2, hr, H⟩ := app_str T1 B1 i (by omega) 22
  have HR := hid hr
  have HH := hid H
  have LL := hid (And.intro L1 hn1)
  clear hr H L1 T1 B1 hn1
  go_wp2_with (at_builtin; refine wpList_append_run rfl (.tmp 10) (.tmp 11) 22 9 rfl v1 (.string (nm i)) rfl rfl HR.out ?_)
  go_ret
  obtain ⟨G2, L2, T2, B2⟩ := HH.out
  obtain ⟨L1, hn1⟩ := LL.out
  exact ⟨_, n1 + 1, G2, rfl, (L1.trans L2).mono (by omega), T2, B2, by omega⟩
end Go.Proofs.Qxb6002353a
