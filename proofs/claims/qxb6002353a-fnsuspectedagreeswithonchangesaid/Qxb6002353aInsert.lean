/-
  SEAT b6002353a: slices.Insert at a node's row of peers: the four roads (the kit's shelf texts at []string, turned to this program).
-/
import Derived.Test.Qxb6002353aSearch
import Derived.Shelf.Spec.SlicesInsertGrow
namespace Go.Proofs.Qxb6002353a
open Go.RowKit Go.Lib
set_option linter.unusedVariables false
set_option linter.unusedSimpArgs false

theorem size74 (w : World) : (sizeOf 74).run Try.prog w = .ok 1 w := by kernel_rfl

set_option maxHeartbeats 4000000 in
set_option maxRecDepth 100000 in
theorem ins_shift (b off n c i vb voff m vc : Nat) (cs vs : List Value) (w : World) (hi : i < n) (hm : 0 < m) (hroom : n + m ≤ c) (hc63 : c ≤ 9223372036854775807) (hvb : vb ≠ b)
    (hcl : cs.length = n) (hvl : vs.length = m)
    (hcs : ∀ j v, cs[j]? = some v → w.cell? ⟨b, off + j, none⟩ = some v) (hsp : ∀ j, j < n + m → (w.cell? ⟨b, off + j, none⟩).isSome = true) (hfz : ∀ j, j < n + m → w.frozen? ⟨b, off + j, none⟩ = false)
    (hvs : ∀ j v, vs[j]? = some v → w.cell? ⟨vb, voff + j, none⟩ = some v) (h1c : ∀ v ∈ cs, v.oneCell' = true) (h1v : ∀ v ∈ vs, v.oneCell' = true)
    (tA tB : TypeId) (kA kB : Nat) (hsa : w.shape? vb = some (tA, kA)) (hsb : w.shape? b = some (tB, kB)) (hkB : kB ≠ 0) (hfa : w.frozen? ⟨vb, voff, none⟩ = false) (hfe : w.frozen? ⟨vb, kA, none⟩ = false) :
    Calls Try.prog 55 #[.slice (some ⟨b, off, none⟩) n c, .int .i64 i, .slice (some ⟨vb, voff, none⟩) m vc] w fun e w' =>
      e = .returned (.slice (some ⟨b, off, none⟩) (n + m) c) ∧ w' = (w.drew.setCells b (off + (i + m)) (cs.drop i)).setCells b (off + i) vs := by
  have hz1 : ¬ ((m : Int) = 0) := by omega
  have hz2 : ¬ ((i : Int) = (n : Int)) := by omega
  have hsz : (Try.prog.info? 74).map (·.size) = some 1 := by
    obtain ⟨i0, hi0, h0, h1, h2⟩ := info_parts info74
    rw [hi0]; simp [h1]
  have hov : ∀ lb cb, (callFunc 75 #[.slice (some ⟨vb, voff, none⟩) m vc, .slice (some ⟨b, off + (i + m), none⟩) lb cb]).run Try.prog w = .ok (.value (.bool false)) w := fun lb cb => by
    rw [run_callFunc_extern Try.func75 (by kernel_rfl) (by kernel_rfl) (by kernel_rfl) (e := Extern.SlicesOverlaps.overlaps #[60, 60] #[4]) (by kernel_rfl),
      Lib.run_overlaps_apart w 60 4 74 Try.underlying60 1 size74 ⟨vb, voff, none⟩ ⟨b, off + (i + m), none⟩ m vc lb cb hvb tA tB kA kB hsa hsb hkB hfa hfe]
    rfl
  have hdl : (cs.drop i).length = n - i := by rw [List.length_drop, hcl]
  have hw1 : IntKind.i64.wrap ((i : Int) + (m : Int)) = (i : Int) + (m : Int) := by rw [IntKind.wrap_i64]; omega
  have hb1 : (0 : Int) ≤ (i : Int) + (m : Int) := by omega
  have hin : i ≤ n := by omega
  have htn : ((i : Int) + (m : Int)).toNat = i + m := by omega
  have hb2 : ¬ (c = i + m) := by omega
  have hb3 : (i : Int) ≤ (n : Int) + (m : Int) := by omega
  have hb4 : ¬ (c = i) := by omega
  have hcp1 : ∀ ty dc sc, (Builtin.copy_ #[60, 60] ty #[.slice (some ⟨b, off + (i + m), none⟩) (n + m - (i + m)) dc, .slice (some ⟨b, off + i, none⟩) (n + m - i) sc]).run Try.prog w.drew = .ok (goInt (cs.drop i).length) (w.drew.setCells b (off + (i + m)) (cs.drop i)) := fun ty dc sc =>
    run_copy_cells w.drew _ _ ty 74 b (off + (i + m)) (n + m - (i + m)) dc ⟨b, off + i, none⟩ (n + m - i) sc (cs.drop i) Try.underlying60 hsz (by rw [hdl]; simp only [Nat.min_def]; split <;> omega)
      (fun j v hj => by rw [Addr.add_lit, Nat.add_assoc]; exact hcs (i + j) v (by rwa [List.getElem?_drop] at hj))
      (fun j hj => by rw [Nat.add_assoc]; exact hsp _ (by omega)) (fun j hj => by rw [Nat.add_assoc]; exact hfz _ (by omega)) (fun v hv => h1c v (List.mem_of_mem_drop hv))
  obtain ⟨W1, hW1⟩ : ∃ W1, W1 = w.drew.setCells b (off + (i + m)) (cs.drop i) := ⟨_, rfl⟩
  have hsp1 : ∀ k, k < n + m → (W1.cell? ⟨b, off + k, none⟩).isSome = true := fun k hk => by
    rw [hW1]
    exact isSome_setCells b _ _ _ (fun j hj => by rw [Nat.add_assoc]; exact hsp _ (by omega)) _ (hsp k hk)
  have hcp2 : ∀ (W : World), (∀ x, W.cell? x = W1.cell? x) → (∀ x, W.frozen? x = W1.frozen? x) → ∀ ty dc, (Builtin.copy_ #[60, 60] ty #[.slice (some ⟨b, off + i, none⟩) (n + m - i) dc, .slice (some ⟨vb, voff, none⟩) m vc]).run Try.prog W = .ok (goInt vs.length) (W.setCells b (off + i) vs) := fun W hWc hWf ty dc =>
    run_copy_cells W _ _ ty 74 b (off + i) (n + m - i) dc ⟨vb, voff, none⟩ m vc vs Try.underlying60 hsz (by rw [hvl]; simp only [Nat.min_def]; split <;> omega)
      (fun j v hj => by
        rw [Addr.add_lit, hWc, hW1, World.cell?_setCells_out b _ _ _ _ (fun h _ => absurd h hvb)]
        exact hvs j v hj)
      (fun j hj => by rw [hWc, Nat.add_assoc]; exact hsp1 _ (by omega)) (fun j hj => by rw [hWf, hW1, World.frozen?_setCells, Nat.add_assoc]; exact hfz _ (by omega)) h1v
  rw [← hW1] at hcp1
  go_enter Try.func55, Try.ntmps55
  go_wp2_with (simp only [hov])
  go_region_law (refine step_copy_runI rfl _ _ 60 60 rfl _ _ (by simp [Act.eval, Act.put]) (by simp [Act.eval, Act.put]) (hcp1 _ _ _) ?_)
  go_wp2_with (at_builtin; refine wpList_copy_runI _ rfl _ _ 60 60 rfl _ _ rfl rfl (hcp2 _ (fun _ => rfl) (fun _ => rfl) _ _) ?_)
  go_ret
  first | exact ⟨rfl, rfl⟩ | exact ⟨rfl, by rw [hW1]⟩


set_option maxHeartbeats 4000000 in
set_option maxRecDepth 100000 in
theorem ins_end_room (b off n c vb voff m vc : Nat) (vs : List Value) (w : World) (hm : 0 < m) (hroom : n + m ≤ c) (hc63 : c ≤ 9223372036854775807)
    (hvl : vs.length = m) (hsp : ∀ j, j < m → (w.cell? ⟨b, off + n + j, none⟩).isSome = true) (hfz : ∀ j, j < m → w.frozen? ⟨b, off + n + j, none⟩ = false)
    (hvs : ∀ j v, vs[j]? = some v → w.cell? ⟨vb, voff + j, none⟩ = some v) (h1v : ∀ v ∈ vs, v.oneCell' = true) :
    Calls Try.prog 55 #[.slice (some ⟨b, off, none⟩) n c, .int .i64 n, .slice (some ⟨vb, voff, none⟩) m vc] w fun e w' =>
      e = .returned (.slice (some ⟨b, off, none⟩) (n + m) c) ∧ w' = w.setCells b (off + n) vs := by
  have hz1 : ¬ ((m : Int) = 0) := by omega
  have hsrc : Src Try.prog 1 60 (.slice (some ⟨vb, voff, none⟩) m vc) m vs w := Src.ofSlice w Try.underlying60 ⟨vb, voff, none⟩ m vc vs (by omega) (fun j u hj => by rw [Addr.add_lit]; exact hvs j u hj) h1v
  go_enter Try.func55, Try.ntmps55
  go_wp2_with (at_builtin; refine wpList_append_room1 _ rfl _ _ 60 60 rfl 74 _ _ Try.underlying60 info74 b off n c rfl _ rfl m vs hsrc hroom (by rw [hvl]; exact hsp) (by rw [hvl]; exact hfz) ?_)
  go_ret
  exact ⟨rfl, rfl⟩


set_option maxHeartbeats 4000000 in
set_option maxRecDepth 100000 in
theorem ins_end_grow (base : Option Addr) (n c vb voff m vc : Nat) (cs vs : List Value) (w : World) (hm : 0 < m) (hnc : n ≤ c) (hroom : c < n + m) (hbig : (n + m) * 8 ≤ 140737488355328)
    (hcl : cs.length = n) (hvl : vs.length = m) (hnil : base = none → n = 0)
    (hcs : ∀ a, base = some a → ∀ j v, cs[j]? = some v → w.cell? (a.add j) = some v)
    (hvs : ∀ j v, vs[j]? = some v → w.cell? ⟨vb, voff + j, none⟩ = some v) (h1v : ∀ v ∈ vs, v.oneCell' = true) :
    Calls Try.prog 55 #[.slice base n c, .int .i64 n, .slice (some ⟨vb, voff, none⟩) m vc] w fun e w' =>
      e = .returned (.slice (some ⟨w.heap.size, 0, none⟩) (n + m) (grownCap w (n + m) c 74)) ∧
      w' = w.drew.alloc (.cells ((cs ++ vs).toArray ++ Builtin.zeroCells (Value.pointer none).cells (grownCap w (n + m) c 74 - (n + m))) 74) := by
  obtain ⟨i0, hi0, hz0, hzs, hzb⟩ := info_parts info74
  have hz1 : ¬ ((m : Int) = 0) := by omega
  have hsrc : Src Try.prog i0.size 60 (.slice (some ⟨vb, voff, none⟩) m vc) m vs w := by
    rw [hzs]
    exact Src.ofSlice w Try.underlying60 ⟨vb, voff, none⟩ m vc vs (by omega) (fun j u hj => by rw [Addr.add_lit]; exact hvs j u hj) h1v
  have hold : (Builtin.firstCells i0.size n (.slice base n c)).run Try.prog w.drew = .ok cs.toArray w.drew := by
    rw [hzs]
    cases base with
    | none =>
      have h0 := hnil rfl
      subst h0
      rw [List.length_eq_zero_iff.1 hcl]
      exact run_firstCells_none w.drew 1 0 0 c
    | some a => exact run_firstCells_some w.drew 1 n a n c cs (by omega) (fun j v hj => hcs a rfl j v hj)
  have hrun : ∀ ty, (Builtin.append_ #[60, 60] ty #[.slice base n c, .slice (some ⟨vb, voff, none⟩) m vc]).run Try.prog w = _ := fun ty =>
    run_append_grow_src w 60 60 ty 74 i0 _ Try.underlying60 hi0 hz0 base n c cs hold _ m vs hsrc hroom (by omega) (by rw [hzb]; exact growslice_fits hroom hbig)
  go_enter Try.func55, Try.ntmps55
  cases base with
  | none =>
    have h0 := hnil rfl
    subst h0
    go_wp2_with (at_builtin; refine Lib.wpList_append_run _ rfl _ _ _ _ rfl _ _ rfl rfl _ _ (hrun _) ?_)
    go_ret
    exact ⟨rfl, rfl⟩
  | some a =>
    obtain ⟨ab, ao, asp⟩ := a
    go_wp2_with (at_builtin; refine Lib.wpList_append_run _ rfl _ _ _ _ rfl _ _ rfl rfl _ _ (hrun _) ?_)
    all_goals (go_ret; exact ⟨rfl, rfl⟩)


set_option maxHeartbeats 4000000 in
set_option maxRecDepth 100000 in
theorem ins_grow (b off n c i vb voff m vc : Nat) (cs vs : List Value) (w : World) (hi : i < n) (hm : 0 < m) (hnc : n ≤ c) (hroom : c < n + m) (hbig : (n + m) * 8 ≤ 140737488355328)
    (hcl : cs.length = n) (hvl : vs.length = m)
    (hcs : ∀ j v, cs[j]? = some v → w.cell? ⟨b, off + j, none⟩ = some v)
    (hvs : ∀ j v, vs[j]? = some v → w.cell? ⟨vb, voff + j, none⟩ = some v) (h1c : ∀ v ∈ cs, v.oneCell' = true) (h1v : ∀ v ∈ vs, v.oneCell' = true) :
    Calls Try.prog 55 #[.slice (some ⟨b, off, none⟩) n c, .int .i64 i, .slice (some ⟨vb, voff, none⟩) m vc] w fun e w' =>
      e = .returned (.slice (some ⟨w.heap.size, 0, none⟩) (n + m) (grownCap w (n + m) c 74)) ∧
      w' = (((w.alloc (.cells ((cs.take i).toArray ++ Builtin.zeroCells (Value.pointer none).cells (n + m - i) ++ Builtin.zeroCells (Value.pointer none).cells (grownCap w (n + m) c 74 - (n + m))) 74)).drew.setCells w.heap.size i vs).drew).setCells w.heap.size (i + m) (cs.drop i) := by
  obtain ⟨i0, hi0, hz0, hzs, hzb⟩ := info_parts info74
  have hz1 : ¬ ((m : Int) = 0) := by omega
  have hz2 : ¬ ((i : Int) = (n : Int)) := by omega
  have hz3 : (c : Int) < (n : Int) + (m : Int) := by omega
  have hsz : (Try.prog.info? 74).map (·.size) = some 1 := by rw [hi0]; simp [hzs]
  have hbw : b < w.heap.size := block_lt_of_cell (hcs 0 _ (List.getElem?_eq_getElem (by omega)))
  have hvw : vb < w.heap.size := block_lt_of_cell (hvs 0 _ (List.getElem?_eq_getElem (by omega)))
  have hkk : (n : Int) + (m : Int) - (i : Int) = ((n + m - i : Nat) : Int) := by omega
  have hik : i + (n + m - i) = n + m := by omega
  have hold : (Builtin.firstCells i0.size i (.slice (some ⟨b, off, none⟩) i c)).run Try.prog w.drew = .ok (cs.take i).toArray w.drew := by
    rw [hzs]
    exact run_firstCells_some w.drew 1 i ⟨b, off, none⟩ i c (cs.take i) (by rw [List.length_take]; omega) (fun j v hj => by
      rw [Addr.add_lit]
      rw [List.getElem?_take] at hj
      split at hj
      · exact hcs j v hj
      · cases hj)
  have hrz : ∀ ty, (Builtin.append_ #[60, 3] ty #[.slice (some ⟨b, off, none⟩) i c, .int .i64 ((n : Int) + (m : Int) - (i : Int))]).run Try.prog w =
      .ok (.slice (some ⟨w.heap.size, 0, none⟩) (n + m) (grownCap w (n + m) c 74)) (w.drew.alloc (.cells ((cs.take i).toArray ++ Builtin.zeroCells (Value.pointer none).cells (n + m - i) ++ Builtin.zeroCells (Value.pointer none).cells (grownCap w (n + m) c 74 - (n + m))) 74)) := fun ty => by
    have h := Lib.run_append_grow_zeros w 60 3 ty 74 i0 _ .i64 .i64 Try.underlying60 Try.underlying3 hi0 hz0 (some ⟨b, off, none⟩) i c (cs.take i) hold (n + m - i) (by omega) (by omega) (by omega) (by omega) (by rw [hzb]; omega) (by rw [hzb, hik]; exact growslice_fits hroom hbig)
    rw [hik] at h
    rw [hkk]
    exact h
  obtain ⟨G, hG⟩ : ∃ G, G = grownCap w (n + m) c 74 := ⟨_, rfl⟩
  obtain ⟨ROW, hROW⟩ : ∃ ROW : Array Value, ROW = (cs.take i).toArray ++ Builtin.zeroCells (Value.pointer none).cells (n + m - i) ++ Builtin.zeroCells (Value.pointer none).cells (G - (n + m)) := ⟨_, rfl⟩
  rw [← hG] at hrz ⊢
  rw [← hROW] at hrz ⊢
  have hRl : n + m ≤ ROW.size := by
    rw [hROW]
    simp [Builtin.zeroCells, Value.cells]
    omega
  obtain ⟨W1, hW1⟩ : ∃ W1, W1 = w.drew.alloc (.cells ROW 74) := ⟨_, rfl⟩
  rw [← hW1] at hrz
  have hN : ∀ j, j < n + m → (W1.cell? ⟨w.heap.size, j, none⟩).isSome = true := fun j hj => by
    rw [hW1, World.cell?_alloc_at (w := w.drew) ROW _ w.heap.size j rfl, Array.getElem?_eq_getElem (by omega)]; rfl
  have hNf : ∀ j, W1.frozen? ⟨w.heap.size, j, none⟩ = false := fun j => by rw [hW1]; exact World.frozen?_alloc_at (w := w.drew) ROW _ w.heap.size j rfl
  have hOb : ∀ j v, w.cell? ⟨b, j, none⟩ = some v → W1.cell? ⟨b, j, none⟩ = some v := fun j v h => by rw [hW1, World.cell?_alloc_past (w := w.drew) _ b j hbw]; exact h
  have hOv : ∀ j v, w.cell? ⟨vb, j, none⟩ = some v → W1.cell? ⟨vb, j, none⟩ = some v := fun j v h => by rw [hW1, World.cell?_alloc_past (w := w.drew) _ vb j hvw]; exact h
  have hcpA : ∀ (W : World), (∀ x, W.cell? x = W1.cell? x) → (∀ x, W.frozen? x = W1.frozen? x) → ∀ ty dc, (Builtin.copy_ #[60, 60] ty #[.slice (some ⟨w.heap.size, i, none⟩) (n + m - i) dc, .slice (some ⟨vb, voff, none⟩) m vc]).run Try.prog W = .ok (goInt vs.length) (W.setCells w.heap.size i vs) := fun W hWc hWf ty dc =>
    run_copy_cells W _ _ ty 74 w.heap.size i (n + m - i) dc ⟨vb, voff, none⟩ m vc vs Try.underlying60 hsz (by rw [hvl]; simp only [Nat.min_def]; split <;> omega)
      (fun j v hj => by rw [Addr.add_lit, hWc]; exact hOv _ v (hvs j v hj))
      (fun j hj => by rw [hWc]; exact hN _ (by omega)) (fun j hj => by rw [hWf]; exact hNf _) h1v
  have hGn : n + m ≤ G := by rw [hG]; exact grownCap_ge w _ _ _
  have hG63 : G ≤ 9223372036854775807 := by
    have := grownCap_le_maxLen w (n + m) c 74 (by unfold maxLen; omega)
    rw [← hG] at this
    unfold maxLen at this
    omega
  have hGi : ¬ (G = i) := by omega
  have hGim : ¬ (G = i + m) := by omega
  have hci : ¬ (c = i) := by omega
  have hbN : b ≠ w.heap.size := by omega
  have hdl : (cs.drop i).length = n - i := by rw [List.length_drop, hcl]
  have hcpB : ∀ (W : World), (∀ x, W.cell? x = (W1.setCells w.heap.size i vs).cell? x) → (∀ x, W.frozen? x = (W1.setCells w.heap.size i vs).frozen? x) → ∀ ty dc sc, (Builtin.copy_ #[60, 60] ty #[.slice (some ⟨w.heap.size, i + m, none⟩) (n + m - (i + m)) dc, .slice (some ⟨b, off + i, none⟩) (n - i) sc]).run Try.prog W = .ok (goInt (cs.drop i).length) (W.setCells w.heap.size (i + m) (cs.drop i)) := fun W hWc hWf ty dc sc =>
    run_copy_cells W _ _ ty 74 w.heap.size (i + m) (n + m - (i + m)) dc ⟨b, off + i, none⟩ (n - i) sc (cs.drop i) Try.underlying60 hsz (by rw [hdl]; simp only [Nat.min_def]; split <;> omega)
      (fun j v hj => by
        rw [Addr.add_lit, hWc, World.cell?_setCells_out _ _ _ _ _ (fun h _ => absurd h hbN), Nat.add_assoc]
        exact hOb _ v (hcs (i + j) v (by rwa [List.getElem?_drop] at hj)))
      (fun j hj => by rw [hWc]; exact isSome_setCells _ _ _ _ (fun t ht => hN _ (by omega)) _ (hN _ (by omega)))
      (fun j hj => by rw [hWf, World.frozen?_setCells]; exact hNf _) (fun v hv => h1c v (List.mem_of_mem_drop hv))
  subst hW1
  have hE1 : ∀ x, ((w.alloc (.cells ROW 74)).drew).cell? x = (w.drew.alloc (.cells ROW 74)).cell? x := fun x => rfl
  have hE2 : ∀ x, ((w.alloc (.cells ROW 74)).drew).frozen? x = (w.drew.alloc (.cells ROW 74)).frozen? x := fun x => rfl
  have hF1 : ∀ x, (((w.alloc (.cells ROW 74)).drew.setCells w.heap.size i vs).drew).cell? x = ((w.drew.alloc (.cells ROW 74)).setCells w.heap.size i vs).cell? x := fun x => rfl
  have hF2 : ∀ x, (((w.alloc (.cells ROW 74)).drew.setCells w.heap.size i vs).drew).frozen? x = ((w.drew.alloc (.cells ROW 74)).setCells w.heap.size i vs).frozen? x := fun x => rfl
  have hw1 : IntKind.i64.wrap ((i : Int) + (m : Int)) = (i : Int) + (m : Int) := by rw [IntKind.wrap_i64]; omega
  have hb1 : (0 : Int) ≤ (i : Int) + (m : Int) := by omega
  have hin : i ≤ n := by omega
  have htn : ((i : Int) + (m : Int)).toNat = i + m := by omega
  have hb3 : (i : Int) ≤ (n : Int) := by omega
  clear hkk hik hold hROW hG hRl
  go_enter Try.func55, Try.ntmps55
  go_wp2_with (first
    | (at_builtin; refine Lib.wpList_append_run _ rfl _ _ _ _ rfl _ _ rfl rfl _ _ (hrz _) ?_)
    | (at_builtin; refine wpList_copy_runI _ rfl _ _ 60 60 rfl _ _ rfl rfl (hcpA _ hE1 hE2 _ _) ?_)
    | (at_builtin; refine wpList_copy_runI _ rfl _ _ 60 60 rfl _ _ rfl rfl (hcpB _ (fun _ => rfl) (fun _ => rfl) _ _ _) ?_))
  go_region_law (refine step_copy_runI rfl _ _ 60 60 rfl (.slice (some ⟨w.heap.size, i + m, none⟩) (n + m - (i + m)) (G - (i + m))) (.slice (some ⟨b, off + i, none⟩) (n - i) (c - i)) (by simp [Act.eval, Act.put]) (by simp [Act.eval, Act.put]) (hcpB _ hF1 hF2 3 (G - (i + m)) (c - i)) ?_)
  go_wp2
  go_ret
  exact ⟨rfl, rfl⟩

end Go.Proofs.Qxb6002353a
