/-
  THE WALK OF middleSnake (function 33), part 6: the first loop; the contract.
-/
import Derived.Test.Qxb6601687aSnakeJ
namespace Go.Proofs.Qxb6601687a
open Go.RowKit
set_option linter.unusedVariables false
set_option linter.unusedSimpArgs false

/-- the memory while the two rows are being filled: i cells hold -1 -/
structure O0 (E : E33) (w : World) (s : Int) (i : Nat) : Prop where
  dd : w.heap[E.pd]? = some (.cells #[E.va, E.vb, E.vd, E.vi, .slice (some ⟨E.fb, 0, none⟩) E.N E.N, .slice (some ⟨E.gb, 0, none⟩) E.N E.N, .int .i64 s] E.T (0, 0))
  ff : ∃ arr, w.heap[E.fb]? = some (.cells arr 3 (0, 0)) ∧ arr.size = E.N ∧ ∀ t, t < i → arr[t]? = some (.int .i64 (-1))
  gg : ∃ arr, w.heap[E.gb]? = some (.cells arr 3 (0, 0)) ∧ arr.size = E.N ∧ ∀ t, t < i → arr[t]? = some (.int .i64 (-1))
  aa : ∀ i, i < E.la → w.cell? ⟨E.ab, i, none⟩ = some (.int .i32 (E.A i))
  bb : ∀ i, i < E.lb → w.cell? ⟨E.bb, i, none⟩ = some (.int .i32 (E.B i))

theorem O0.drewN {E w s i} (h : O0 E w s i) (n : Nat) : O0 E (w.drewN n) s i := ⟨h.dd, h.ff, h.gg, h.aa, h.bb⟩

theorem O0.next {E w s i} (h : O0 E w s i) (sz : Sz E) (hi : i < E.N) : O0 E ((w.setCell ⟨E.fb, i, none⟩ (.int .i64 (-1))).setCell ⟨E.gb, i, none⟩ (.int .i64 (-1))) s (i + 1) := by
  obtain ⟨arr, f3, f4, f5⟩ := h.ff
  obtain ⟨grr, g3, g4, g5⟩ := h.gg
  have fill : ∀ (x : Array Value), x.size = E.N → (∀ t, t < i → x[t]? = some (.int .i64 (-1))) → ∀ t, t < i + 1 → (x.setIfInBounds i (.int .i64 (-1)))[t]? = some (.int .i64 (-1)) := by
    intro x hx h5 t ht
    by_cases hti : t = i
    · subst hti; rw [Array.getElem?_setIfInBounds_self_of_lt (by omega)]
    · rw [Array.getElem?_setIfInBounds_ne (by omega)]; exact h5 t (by omega)
  refine ⟨?_, ⟨arr.setIfInBounds i (.int .i64 (-1)), ?_, by simpa using f4, fill arr f4 f5⟩, ⟨grr.setIfInBounds i (.int .i64 (-1)), ?_, by simpa using g4, fill grr g4 g5⟩, fun j hj => ?_, fun j hj => ?_⟩
  · rw [Below.heap_setCell _ _ _ _ (by exact sz.d2), Below.heap_setCell _ _ _ _ (by exact sz.d1)]; exact h.dd
  · rw [Below.heap_setCell _ _ _ _ (by exact sz.d3)]; exact heap_setCell_at _ _ _ _ _ _ _ f3
  · refine heap_setCell_at _ _ _ _ _ _ _ ?_
    rw [Below.heap_setCell _ _ _ _ (by exact sz.d3.symm)]; exact g3
  · rw [World.cell?_of_block (w := w.setCell ⟨E.fb, i, none⟩ (.int .i64 (-1))) (Below.heap_setCell _ _ _ _ (by exact sz.d6)), World.cell?_of_block (w := w) (Below.heap_setCell _ _ _ _ (by exact sz.d5))]; exact h.aa j hj
  · rw [World.cell?_of_block (w := w.setCell ⟨E.fb, i, none⟩ (.int .i64 (-1))) (Below.heap_setCell _ _ _ _ (by exact sz.d9)), World.cell?_of_block (w := w) (Below.heap_setCell _ _ _ _ (by exact sz.d8))]; exact h.bb j hj

theorem O0.done {E w s} (h : O0 E w s (E.n + E.m + 3)) : Ok E w (fun _ => -1) (fun _ => -1) s := by
  obtain ⟨arr, f3, f4, f5⟩ := h.ff
  obtain ⟨grr, g3, g4, g5⟩ := h.gg
  exact ⟨h.dd, ⟨arr, f3, f4, fun k h1 h2 => f5 _ (by omega)⟩, ⟨grr, g3, g4, fun k h1 h2 => g5 _ (by omega)⟩, h.aa, h.bb, fun k => ⟨Int.le_refl _, by show (-1 : Int) ≤ _; omega⟩, fun k => ⟨Int.le_refl _, by show (-1 : Int) ≤ _; omega⟩, fun k => .inl rfl, fun k => .inl rfl⟩

set_option maxHeartbeats 1000000 in
set_option maxRecDepth 100000 in
theorem i_in {E : E33} {s : Int} {i : Nat} {vf vg : Value} {a : Act} {w : World} {Q : Exit → Act → World → Prop} (hd : a.defers = []) (hs : a.tmps.size = 437) (h0 : get a 0 = .pointer (some ⟨E.pd, 0, none⟩)) (h1 : get a 1 = .int .i64 E.x0) (h2 : get a 2 = .int .i64 (E.x0 + E.n)) (h3 : get a 3 = .int .i64 E.y0) (h4 : get a 4 = .int .i64 (E.y0 + E.m)) (h10 : get a 10 = .int .i64 0) (h11 : get a 11 = .int .i64 0) (h12 : get a 12 = .int .i64 0) (h13 : get a 13 = .int .i64 0) (h14 : get a 14 = .bool false) (h15 : get a 15 = .int .i64 E.n) (h16 : get a 16 = .int .i64 E.m) (h17 : get a 17 = .int .i64 ((E.n : Int) - E.m)) (h18 : get a 18 = .int .i64 ((E.m : Int) + 1)) (h19 : get a 19 = .slice (some ⟨E.fb, 0, none⟩) (E.n + E.m + 3) E.N) (h20 : get a 20 = .slice (some ⟨E.gb, 0, none⟩) (E.n + E.m + 3) E.N) (h68 : get a 68 = .int .i64 ((E.n : Int) + E.m + 3)) (h69 : get a 69 = .int .i64 (i : Int)) (sz : Sz E) (hi : i < E.n + E.m + 3) (cf : w.cell? ⟨E.fb, i, none⟩ = some vf) (cg : w.cell? ⟨E.gb, i, none⟩ = some vg) (zf : w.frozen? ⟨E.fb, i, none⟩ = false) (zg : w.frozen? ⟨E.gb, i, none⟩ = false)
    (hQ : Hid (∀ a', a'.defers = [] → a'.tmps.size = 437 → get a' 0 = .pointer (some ⟨E.pd, 0, none⟩) → get a' 1 = .int .i64 E.x0 → get a' 2 = .int .i64 (E.x0 + E.n) → get a' 3 = .int .i64 E.y0 → get a' 4 = .int .i64 (E.y0 + E.m) → get a' 10 = .int .i64 0 → get a' 11 = .int .i64 0 → get a' 12 = .int .i64 0 → get a' 13 = .int .i64 0 → get a' 14 = .bool false → get a' 15 = .int .i64 E.n → get a' 16 = .int .i64 E.m → get a' 17 = .int .i64 ((E.n : Int) - E.m) → get a' 18 = .int .i64 ((E.m : Int) + 1) → get a' 19 = .slice (some ⟨E.fb, 0, none⟩) (E.n + E.m + 3) E.N → get a' 20 = .slice (some ⟨E.gb, 0, none⟩) (E.n + E.m + 3) E.N → get a' 68 = .int .i64 ((E.n : Int) + E.m + 3) → get a' 69 = .int .i64 ((i : Int) + 1) → Q .normal a' ((w.setCell ⟨E.fb, i, none⟩ (.int .i64 (-1))).setCell ⟨E.gb, i, none⟩ (.int .i64 (-1))))) :
    Code.wp Try.prog (sub [true, true, true, true, true, false, true, false, false] (bodyOf Try.f33)) Q a w := by
  conv => arg 2; whnf
  have sz' := sz
  obtain ⟨z1, z2, z3, z4, z5, z6, z7, z8, z9, z10, e1, e2, e3, e4, e5, e6, e7, e8, e9, va, vb⟩ := sz'
  clear e1 e2 e4 e5 e6 e7 e8 e9 va vb
  have hi2 : (i : Int) < (E.n : Int) + E.m + 3 := by omega
  rw [lit33 a hd hs]
  generalize get a = g at *
  simp only [h0, h1, h2, h3, h4, h10, h11, h12, h13, h14, h15, h16, h17, h18, h19, h20, h68, h69]
  clear hd hs h0 h1 h2 h3 h4 h10 h11 h12 h13 h14 h15 h16 h17 h18 h19 h20 h68 h69
  go_wp2
  exact hQ.out _ rfl rfl rfl rfl rfl rfl rfl rfl rfl rfl rfl rfl rfl rfl rfl rfl rfl rfl rfl rfl
set_option maxHeartbeats 1000000 in
set_option maxRecDepth 100000 in
theorem i_out {E : E33} {i : Nat} {a : Act} {w : World} {Q : Exit → Act → World → Prop} (hd : a.defers = []) (hs : a.tmps.size = 437) (h0 : get a 0 = .pointer (some ⟨E.pd, 0, none⟩)) (h1 : get a 1 = .int .i64 E.x0) (h2 : get a 2 = .int .i64 (E.x0 + E.n)) (h3 : get a 3 = .int .i64 E.y0) (h4 : get a 4 = .int .i64 (E.y0 + E.m)) (h10 : get a 10 = .int .i64 0) (h11 : get a 11 = .int .i64 0) (h12 : get a 12 = .int .i64 0) (h13 : get a 13 = .int .i64 0) (h14 : get a 14 = .bool false) (h15 : get a 15 = .int .i64 E.n) (h16 : get a 16 = .int .i64 E.m) (h17 : get a 17 = .int .i64 ((E.n : Int) - E.m)) (h18 : get a 18 = .int .i64 ((E.m : Int) + 1)) (h19 : get a 19 = .slice (some ⟨E.fb, 0, none⟩) (E.n + E.m + 3) E.N) (h20 : get a 20 = .slice (some ⟨E.gb, 0, none⟩) (E.n + E.m + 3) E.N) (h68 : get a 68 = .int .i64 ((E.n : Int) + E.m + 3)) (h69 : get a 69 = .int .i64 (i : Int)) (sz : Sz E) (hi : i = E.n + E.m + 3)
    (hQ : Hid (∀ a', Fx E a' → Q (.exit 0) a' w)) :
    Code.wp Try.prog (sub [true, true, true, true, true, false, true, false, false] (bodyOf Try.f33)) Q a w := by
  conv => arg 2; whnf
  have sz' := sz
  obtain ⟨z1, z2, z3, z4, z5, z6, z7, z8, z9, z10, e1, e2, e3, e4, e5, e6, e7, e8, e9, va, vb⟩ := sz'
  clear e1 e2 e4 e5 e6 e7 e8 e9 va vb
  have hi2 : (E.n : Int) + E.m + 3 ≤ (i : Int) := by omega
  clear hi
  rw [lit33 a hd hs]
  generalize get a = g at *
  simp only [h0, h1, h2, h3, h4, h10, h11, h12, h13, h14, h15, h16, h17, h18, h19, h20, h68, h69]
  clear hd hs h0 h1 h2 h3 h4 h10 h11 h12 h13 h14 h15 h16 h17 h18 h19 h20 h68 h69
  go_wp2
  exact hQ.out _ ⟨rfl, rfl, rfl, rfl, rfl, rfl, rfl, rfl, rfl, rfl, rfl, rfl, rfl, rfl, rfl, rfl⟩

theorem i_rounds {E : E33} {Q : Exit → Act → World → Prop} (sz : Sz E) {s : Int} (j : Nat) : ∀ (a : Act) (w : World) (i : Nat), a.defers = [] → a.tmps.size = 437 → get a 0 = .pointer (some ⟨E.pd, 0, none⟩) → get a 1 = .int .i64 E.x0 → get a 2 = .int .i64 (E.x0 + E.n) → get a 3 = .int .i64 E.y0 → get a 4 = .int .i64 (E.y0 + E.m) → get a 10 = .int .i64 0 → get a 11 = .int .i64 0 → get a 12 = .int .i64 0 → get a 13 = .int .i64 0 → get a 14 = .bool false → get a 15 = .int .i64 E.n → get a 16 = .int .i64 E.m → get a 17 = .int .i64 ((E.n : Int) - E.m) → get a 18 = .int .i64 ((E.m : Int) + 1) → get a 19 = .slice (some ⟨E.fb, 0, none⟩) (E.n + E.m + 3) E.N → get a 20 = .slice (some ⟨E.gb, 0, none⟩) (E.n + E.m + 3) E.N → get a 68 = .int .i64 ((E.n : Int) + E.m + 3) → get a 69 = .int .i64 (i : Int) →  O0 E w s i → i + j = E.n + E.m + 3 →
    (∀ a' w', Fx E a' → O0 E w' s (E.n + E.m + 3) → Sm E w w' → Q (.exit 0) a' w') →
    Code.rounds Try.prog (sub [true, true, true, true, true, false, true, false, false] (bodyOf Try.f33)) Q (j + 1) a w := by
  have zN := sz.N
  induction j with
  | zero =>
    intro a w i hd hs h0 h1 h2 h3 h4 h10 h11 h12 h13 h14 h15 h16 h17 h18 h19 h20 h68 h69 o0 hij hQ
    rw [rounds_succ]
    obtain rfl : i = E.n + E.m + 3 := by omega
    exact i_out hd hs h0 h1 h2 h3 h4 h10 h11 h12 h13 h14 h15 h16 h17 h18 h19 h20 h68 h69 sz rfl (fun a' hF => hQ a' w hF o0 (Sm.refl E w))
  | succ j ih =>
    intro a w i hd hs h0 h1 h2 h3 h4 h10 h11 h12 h13 h14 h15 h16 h17 h18 h19 h20 h68 h69 o0 hij hQ
    rw [rounds_succ]
    obtain ⟨arr, f3, f4, f5⟩ := o0.ff
    obtain ⟨grr, g3, g4, g5⟩ := o0.gg
    obtain ⟨vf, hvf⟩ : ∃ v, arr[i]? = some v := ⟨arr[i]'(by omega), Array.getElem?_eq_getElem (by omega)⟩
    obtain ⟨vg, hvg⟩ : ∃ v, grr[i]? = some v := ⟨grr[i]'(by omega), Array.getElem?_eq_getElem (by omega)⟩
    refine i_in (s := s) (vf := vf) (vg := vg) hd hs h0 h1 h2 h3 h4 h10 h11 h12 h13 h14 h15 h16 h17 h18 h19 h20 h68 h69 sz (by omega) (by simp [World.cell?, f3, hvf]) (by simp [World.cell?, g3, hvg]) (by simp [World.frozen?, f3]) (by simp [World.frozen?, g3]) ?_
    intro a' hd' hs' k0 k1 k2 k3 k4 k10 k11 k12 k13 k14 k15 k16 k17 k18 k19 k20 k68 k69
    refine ih a' _ (i + 1) hd' hs' k0 k1 k2 k3 k4 k10 k11 k12 k13 k14 k15 k16 k17 k18 k19 k20 k68 (by rw [k69]; rfl) (o0.next sz (by omega)) (by omega) ?_
    intro a2 w2 hF2 o2 sm2
    exact hQ a2 w2 hF2 o2 ((((Sm.refl E w).setCell (.inr (.inl rfl)) _).setCell (.inr (.inr rfl)) _).trans sm2)
theorem r0 : sub [] (bodyOf Try.f33) = .seq (sub [false] (bodyOf Try.f33)) (sub [true] (bodyOf Try.f33)) := by kernel_rfl
theorem r1 : sub [true] (bodyOf Try.f33) = .seq (sub [true, false] (bodyOf Try.f33)) (sub [true, true] (bodyOf Try.f33)) := by kernel_rfl
theorem r2 : sub [true, true] (bodyOf Try.f33) = .seq (sub [true, true, false] (bodyOf Try.f33)) (sub [true, true, true] (bodyOf Try.f33)) := by kernel_rfl
theorem r3 : sub [true, true, true] (bodyOf Try.f33) = .seq (sub [true, true, true, false] (bodyOf Try.f33)) (sub [true, true, true, true] (bodyOf Try.f33)) := by kernel_rfl
theorem r4 : sub [true, true, true, true] (bodyOf Try.f33) = .seq (sub [true, true, true, true, false] (bodyOf Try.f33)) (sub [true, true, true, true, true] (bodyOf Try.f33)) := by kernel_rfl
theorem r5 : sub [true, true, true, true, true] (bodyOf Try.f33) = .seq (sub [true, true, true, true, true, false] (bodyOf Try.f33)) (sub [true, true, true, true, true, true] (bodyOf Try.f33)) := by kernel_rfl
theorem r5l : sub [true, true, true, true, true, false] (bodyOf Try.f33) = .seq (sub [true, true, true, true, true, false, false] (bodyOf Try.f33)) (sub [true, true, true, true, true, false, true] (bodyOf Try.f33)) := by kernel_rfl
theorem r5b : sub [true, true, true, true, true, false, true] (bodyOf Try.f33) = .block 0 (sub [true, true, true, true, true, false, true, false] (bodyOf Try.f33)) := by kernel_rfl
theorem r5o : sub [true, true, true, true, true, false, true, false] (bodyOf Try.f33) = .loop (sub [true, true, true, true, true, false, true, false, false] (bodyOf Try.f33)) := by kernel_rfl
theorem r6 : sub [true, true, true, true, true, true] (bodyOf Try.f33) = .seq (sub [true, true, true, true, true, true, false] (bodyOf Try.f33)) (sub [true, true, true, true, true, true, true] (bodyOf Try.f33)) := by kernel_rfl
theorem r6l : sub [true, true, true, true, true, true, false] (bodyOf Try.f33) = .seq (sub [true, true, true, true, true, true, false, false] (bodyOf Try.f33)) (sub [true, true, true, true, true, true, false, true] (bodyOf Try.f33)) := by kernel_rfl
theorem r6b : sub [true, true, true, true, true, true, false, true] (bodyOf Try.f33) = .block 2 (sub [true, true, true, true, true, true, false, true, false] (bodyOf Try.f33)) := by kernel_rfl
theorem r6o : sub [true, true, true, true, true, true, false, true, false] (bodyOf Try.f33) = .loop (sub [true, true, true, true, true, true, false, true, false, false] (bodyOf Try.f33)) := by kernel_rfl
set_option maxHeartbeats 1000000 in
set_option maxRecDepth 100000 in
theorem h10 {E : E33} {a : Act} {w : World} {Q : Exit → Act → World → Prop} (sz : Sz E) (hF : Fx E a)  
    (hQ : Hid (∀ a', Fx E a' → get a' 22 = .int .i64 0 → Q .normal a' w)) :
    Code.wp Try.prog (sub [true, true, true, true, true, true, false, false] (bodyOf Try.f33)) Q a w := by
  conv => arg 2; whnf
  obtain ⟨hd, hs, g0, g1, g3, g10, g11, g12, g13, g14, g15, g16, g17, g18, g19, g20⟩ := hF
  have sz' := sz
  obtain ⟨z1, z2, z3, z4, z5, z6, z7, z8, z9, z10, e1, e2, e3, e4, e5, e6, e7, e8, e9, va, vb⟩ := sz'
  clear e1 e2 e3 e4 e5 e6 e7 e8 e9 va vb
  rw [lit33 a hd hs]
  generalize get a = g at *
  simp only [g0, g1, g3, g10, g11, g12, g13, g14, g15, g16, g17, g18, g19, g20]
  clear hd hs g0 g1 g3 g10 g11 g12 g13 g14 g15 g16 g17 g18 g19 g20
  go_wp2
  exact hQ.out _ ⟨rfl, rfl, rfl, rfl, rfl, rfl, rfl, rfl, rfl, rfl, rfl, rfl, rfl, rfl, rfl, rfl⟩ rfl
set_option maxHeartbeats 1000000 in
set_option maxRecDepth 100000 in
theorem h71 {E : E33} {a : Act} {w : World} {Q : Exit → Act → World → Prop} (sz : Sz E) (hF : Fx E a)  
    (hQ : Hid (∀ a', Rt a' 0 0 0 0 false → Q .ret a' w)) :
    Code.wp Try.prog (sub [true, true, true, true, true, true, true] (bodyOf Try.f33)) Q a w := by
  conv => arg 2; whnf
  obtain ⟨hd, hs, g0, g1, g3, g10, g11, g12, g13, g14, g15, g16, g17, g18, g19, g20⟩ := hF
  have sz' := sz
  obtain ⟨z1, z2, z3, z4, z5, z6, z7, z8, z9, z10, e1, e2, e3, e4, e5, e6, e7, e8, e9, va, vb⟩ := sz'
  clear e1 e2 e3 e4 e5 e6 e7 e8 e9 va vb
  rw [lit33 a hd hs]
  generalize get a = g at *
  simp only [g0, g1, g3, g10, g11, g12, g13, g14, g15, g16, g17, g18, g19, g20]
  clear hd hs g0 g1 g3 g10 g11 g12 g13 g14 g15 g16 g17 g18 g19 g20
  go_wp2
  exact hQ.out _ ⟨rfl, rfl, rfl, rfl, rfl, rfl⟩

theorem results5 {fn : Func} (h : fn.results = #[.tmp 10, .tmp 11, .tmp 12, .tmp 13, .tmp 14]) (tmps : Array Value) (P : Program) (w : World) :
    (results fn tmps).run P w = .ok (.tuple #[tmps.getD 10 undef, tmps.getD 11 undef, tmps.getD 12 undef, tmps.getD 13 undef, tmps.getD 14 undef]) w := by
  simp [results, h]

/-- what the call hands back -/
def back : Option (Int × Int × Int × Int) → Value
  | none => .tuple #[.int .i64 0, .int .i64 0, .int .i64 0, .int .i64 0, .bool false]
  | some r => .tuple #[.int .i64 r.1, .int .i64 r.2.1, .int .i64 r.2.2.1, .int .i64 r.2.2.2, .bool true]

theorem post33 {R : Ending → World → Prop} {a : Act} {w : World} {o : Option (Int × Int × Int × Int)} (h : Got a o) (hR : R (.returned (back o)) w) : bodyPost Try.prog Try.f33 R .ret a w := by
  cases o with
  | none =>
    obtain ⟨d, g10, g11, g12, g13, g14⟩ := h
    refine bodyPost_ret (v := back none) ?_ d hR
    rw [results5 rfl]
    unfold get at *
    rw [g10, g11, g12, g13, g14]; rfl
  | some r =>
    obtain ⟨d, g10, g11, g12, g13, g14⟩ := h
    refine bodyPost_ret (v := back (some r)) ?_ d hR
    rw [results5 rfl]
    unfold get at *
    rw [g10, g11, g12, g13, g14]; rfl

theorem start_size (args : Array Value) (N : Nat) (h : args.size ≤ N) : (args ++ Array.replicate (N - args.size) undef).size = N := by simp; omega
theorem start_get (args rest : Array Value) (t : Nat) (v : Value) (h : args[t]? = some v) : get ⟨args ++ rest, []⟩ t = v := by
  have ht : t < args.size := by
    rcases Nat.lt_or_ge t args.size with h1 | h1
    · exact h1
    · rw [Array.getElem?_eq_none h1] at h; cases h
  unfold get
  simp only [Array.getD_eq_getD_getElem?]
  rw [Array.getElem?_append_left ht, h]; rfl

set_option maxRecDepth 100000 in
/-- THE CONTRACT OF middleSnake -/
theorem ms_any (E : E33) (sz : Sz E) (s : Int) (w : World) (o0 : O0 E w s 0) (hs0 : -2147483648 ≤ s) (hs1 : s ≤ 9223372036854775807) :
    Calls Try.prog 33 #[.pointer (some ⟨E.pd, 0, none⟩), .int .i64 E.x0, .int .i64 (E.x0 + E.n), .int .i64 E.y0, .int .i64 (E.y0 + E.m)] w fun e w' =>
      e = .returned (back (My.ms E.a E.b E.n E.m s).1) ∧ (∃ F G, Ok E w' F G (My.ms E.a E.b E.n E.m s).2) ∧ Sm E w w' := by
  refine calls_of_wp (c := sub [] (bodyOf Try.f33)) Try.func33 (by kernel_rfl) ?_
  rw [r0]
  refine wp_seq ?_
  refine h0 (E := E) rfl (by rw [Try.ntmps33]; exact start_size _ _ (by show 5 ≤ 437; omega)) (start_get _ _ 0 _ rfl) (start_get _ _ 1 _ rfl) (start_get _ _ 2 _ rfl) (start_get _ _ 3 _ rfl) (start_get _ _ 4 _ rfl) ?_
  intro a hd hs k0 k1 k2 k3 k4 k10 k11 k12 k13 k14
  show Code.wp Try.prog (sub [true] (bodyOf Try.f33)) _ a w
  rw [r1]
  refine wp_seq ?_
  refine h1 hd hs k0 k1 k2 k3 k4 k10 k11 k12 k13 k14 sz ?_
  clear hd hs k0 k1 k2 k3 k4 k10 k11 k12 k13 k14 a
  intro a hd hs k0 k1 k2 k3 k4 k10 k11 k12 k13 k14 k15 k16
  show Code.wp Try.prog (sub [true, true] (bodyOf Try.f33)) _ a w
  rw [r2]
  refine wp_seq ?_
  refine h2 hd hs k0 k1 k2 k3 k4 k10 k11 k12 k13 k14 k15 k16 sz ?_
  clear hd hs k0 k1 k2 k3 k4 k10 k11 k12 k13 k14 k15 k16 a
  intro a hd hs k0 k1 k2 k3 k4 k10 k11 k12 k13 k14 k15 k16 k17
  show Code.wp Try.prog (sub [true, true, true] (bodyOf Try.f33)) _ a w
  rw [r3]
  refine wp_seq ?_
  refine h3 hd hs k0 k1 k2 k3 k4 k10 k11 k12 k13 k14 k15 k16 k17 sz ?_
  clear hd hs k0 k1 k2 k3 k4 k10 k11 k12 k13 k14 k15 k16 k17 a
  intro a hd hs k0 k1 k2 k3 k4 k10 k11 k12 k13 k14 k15 k16 k17 k18
  show Code.wp Try.prog (sub [true, true, true, true] (bodyOf Try.f33)) _ a w
  rw [r4]
  refine wp_seq ?_
  refine h4 hd hs k0 k1 k2 k3 k4 k10 k11 k12 k13 k14 k15 k16 k17 k18 sz (by simp [World.cell?, o0.dd]) (by simp [World.cell?, o0.dd]) ?_
  clear hd hs k0 k1 k2 k3 k4 k10 k11 k12 k13 k14 k15 k16 k17 k18 a
  intro a nq hd hs k0 k1 k2 k3 k4 k10 k11 k12 k13 k14 k15 k16 k17 k18 k19 k20
  show Code.wp Try.prog (sub [true, true, true, true, true] (bodyOf Try.f33)) _ a (w.drewN nq)
  rw [r5]
  refine wp_seq ?_
  rw [r5l]
  refine wp_seq ?_
  refine h5 hd hs k0 k1 k2 k3 k4 k10 k11 k12 k13 k14 k15 k16 k17 k18 k19 k20 sz ?_
  clear hd hs k0 k1 k2 k3 k4 k10 k11 k12 k13 k14 k15 k16 k17 k18 k19 k20 a
  intro a hd hs k0 k1 k2 k3 k4 k10 k11 k12 k13 k14 k15 k16 k17 k18 k19 k20 k68 k69
  show Code.wp Try.prog (sub [true, true, true, true, true, false, true] (bodyOf Try.f33)) _ a (w.drewN nq)
  rw [r5b]
  refine wp_block ?_
  rw [r5o]
  refine wp_loop_rounds (E.n + E.m + 3 + 1) ?_
  refine i_rounds sz (E.n + E.m + 3) a (w.drewN nq) 0 hd hs k0 k1 k2 k3 k4 k10 k11 k12 k13 k14 k15 k16 k17 k18 k19 k20 k68 k69 (o0.drewN nq) (by omega) ?_
  clear hd hs k0 k1 k2 k3 k4 k10 k11 k12 k13 k14 k15 k16 k17 k18 k19 k20 k68 k69 a
  intro a w2 hF o2 sm2
  have ok2 := o2.done
  have sm : Sm E w w2 := ((Sm.refl E w).drewN nq).trans sm2
  show Code.wp Try.prog (sub [true, true, true, true, true, true] (bodyOf Try.f33)) _ a w2
  rw [r6]
  refine wp_seq ?_
  rw [r6l]
  refine wp_seq ?_
  refine h10 sz hF ?_
  clear hF a
  intro a hF k22
  show Code.wp Try.prog (sub [true, true, true, true, true, true, false, true] (bodyOf Try.f33)) _ a w2
  rw [r6b]
  refine wp_block ?_
  rw [r6o]
  refine wp_loop_rounds ((E.n + E.m + 1) / 2 + 1 + 1) ?_
  refine o_rounds sz ((E.n + E.m + 1) / 2 + 1) a w2 (fun _ => -1) (fun _ => -1) s 0 hF k22 ok2 (by omega) (by omega) hs0 hs1 ?_ ?_
  · intro o s' h a' w' hG hO sm'
    have hm : My.ms E.a E.b E.n E.m s = (o, s') := h
    rw [hm]
    simp only [Exit.inBlock, Exit.then]
    refine post33 (o := o) hG ?_
    exact ⟨rfl, hO, sm.trans sm'⟩
  · intro s' h a' w' hF' hO sm'
    have hm : My.ms E.a E.b E.n E.m s = (none, s') := h
    rw [hm]
    show Code.wp Try.prog (sub [true, true, true, true, true, true, true] (bodyOf Try.f33)) _ a' w'
    refine h71 sz hF' ?_
    intro a'' hR
    simp only [Exit.inBlock, Exit.then]
    refine post33 (o := none) hR ?_
    exact ⟨rfl, hO, sm.trans sm'⟩
#print axioms ms_any
end Go.Proofs.Qxb6601687a
