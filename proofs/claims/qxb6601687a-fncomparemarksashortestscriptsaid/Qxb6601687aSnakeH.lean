/-
  THE WALK OF middleSnake (function 33), part 3: the pieces of the backward row.
-/
import Derived.Test.Qxb6601687aSnakeG
namespace Go.Proofs.Qxb6601687a
open Go.RowKit
set_option linter.unusedVariables false
set_option linter.unusedSimpArgs false

set_option maxHeartbeats 1000000 in
set_option maxRecDepth 100000 in
theorem bH_in {E : E33} {a : Act} {w : World} {c k : Int} {Q : Exit → Act → World → Prop} (sz : Sz E) (hF : Fx E a) (h22 : get a 22 = .int .i64 c) (h30 : get a 30 = .int .i64 k) (hc : 0 ≤ c) (hc' : c ≤ 1100) (hk : max (((E.n : Int) - E.m) - c) (-(E.m : Int)) ≤ k) (hk' : k ≤ 3100)
    (hQ : Hid (∀ a', Fx E a' → get a' 22 = .int .i64 c → get a' 30 = .int .i64 k → Q .normal a' w)) :
    Code.wp Try.prog (sub [true, true, true, true, true, true, false, true, false, false, true, false, false, true, true, false, false, false] (bodyOf Try.f33)) Q a w := by
  conv => arg 2; whnf
  obtain ⟨hd, hs, g0, g1, g3, g10, g11, g12, g13, g14, g15, g16, g17, g18, g19, g20⟩ := hF
  have sz' := sz
  obtain ⟨z1, z2, z3, z4, z5, z6, z7, z8, z9, z10, e1, e2, e3, e4, e5, e6, e7, e8, e9, va, vb⟩ := sz'
  clear e1 e2 e3 e4 e5 e6 e7 e8 e9 va vb
  rw [lit33 a hd hs]
  generalize get a = g at *
  simp only [g0, g1, g3, g10, g11, g12, g13, g14, g15, g16, g17, g18, g19, g20, h22, h30]
  clear hd hs g0 g1 g3 g10 g11 g12 g13 g14 g15 g16 g17 g18 g19 g20 h22 h30
  go_wp2
  all_goals exact hQ.out _ ⟨rfl, rfl, rfl, rfl, rfl, rfl, rfl, rfl, rfl, rfl, rfl, rfl, rfl, rfl, rfl, rfl⟩ rfl rfl
set_option maxHeartbeats 1000000 in
set_option maxRecDepth 100000 in
theorem bH_out {E : E33} {a : Act} {w : World} {c k : Int} {Q : Exit → Act → World → Prop} (sz : Sz E) (hF : Fx E a) (h22 : get a 22 = .int .i64 c) (h30 : get a 30 = .int .i64 k) (hc : 0 ≤ c) (hc' : c ≤ 1100) (hk : k < max (((E.n : Int) - E.m) - c) (-(E.m : Int))) (hk' : -3100 ≤ k)
    (hQ : Hid (∀ a', Fx E a' → get a' 22 = .int .i64 c → Q (.exit 8) a' w)) :
    Code.wp Try.prog (sub [true, true, true, true, true, true, false, true, false, false, true, false, false, true, true, false, false, false] (bodyOf Try.f33)) Q a w := by
  conv => arg 2; whnf
  obtain ⟨hd, hs, g0, g1, g3, g10, g11, g12, g13, g14, g15, g16, g17, g18, g19, g20⟩ := hF
  have sz' := sz
  obtain ⟨z1, z2, z3, z4, z5, z6, z7, z8, z9, z10, e1, e2, e3, e4, e5, e6, e7, e8, e9, va, vb⟩ := sz'
  clear e1 e2 e3 e4 e5 e6 e7 e8 e9 va vb
  rw [lit33 a hd hs]
  generalize get a = g at *
  simp only [g0, g1, g3, g10, g11, g12, g13, g14, g15, g16, g17, g18, g19, g20, h22, h30]
  clear hd hs g0 g1 g3 g10 g11 g12 g13 g14 g15 g16 g17 g18 g19 g20 h22 h30
  go_wp2
  all_goals exact hQ.out _ ⟨rfl, rfl, rfl, rfl, rfl, rfl, rfl, rfl, rfl, rfl, rfl, rfl, rfl, rfl, rfl, rfl⟩ rfl
set_option maxHeartbeats 1000000 in
set_option maxRecDepth 100000 in
theorem b44_no {E : E33} {a : Act} {w : World} {c k : Int} {Q : Exit → Act → World → Prop} (sz : Sz E) (hF : Fx E a) (h22 : get a 22 = .int .i64 c) (h30 : get a 30 = .int .i64 k) (hp : ((k - ((E.n : Int) - E.m) + c).tmod 2 != 0) = true) (hc : 0 ≤ c) (hc' : c ≤ 1100)(hk : -E.m ≤ k) (hk' : k ≤ E.n)
    (hQ : Hid (∀ a', Fx E a' → get a' 22 = .int .i64 c → get a' 30 = .int .i64 k → Q (.exit 9) a' w)) :
    Code.wp Try.prog (sub [true, true, true, true, true, true, false, true, false, false, true, false, false, true, true, false, false, true, false, false, false] (bodyOf Try.f33)) Q a w := by
  conv => arg 2; whnf
  obtain ⟨hd, hs, g0, g1, g3, g10, g11, g12, g13, g14, g15, g16, g17, g18, g19, g20⟩ := hF
  have sz' := sz
  obtain ⟨z1, z2, z3, z4, z5, z6, z7, z8, z9, z10, e1, e2, e3, e4, e5, e6, e7, e8, e9, va, vb⟩ := sz'
  clear e1 e2 e3 e4 e5 e6 e7 e8 e9 va vb
  rw [lit33 a hd hs]
  generalize get a = g at *
  simp only [g0, g1, g3, g10, g11, g12, g13, g14, g15, g16, g17, g18, g19, g20, h22, h30]
  clear hd hs g0 g1 g3 g10 g11 g12 g13 g14 g15 g16 g17 g18 g19 g20 h22 h30
  go_wp2
  exact hQ.out _ ⟨rfl, rfl, rfl, rfl, rfl, rfl, rfl, rfl, rfl, rfl, rfl, rfl, rfl, rfl, rfl, rfl⟩ rfl rfl
set_option maxHeartbeats 1000000 in
set_option maxRecDepth 100000 in
theorem b44_yes {E : E33} {a : Act} {w : World} {c k : Int} {Q : Exit → Act → World → Prop} (sz : Sz E) (hF : Fx E a) (h22 : get a 22 = .int .i64 c) (h30 : get a 30 = .int .i64 k) (hp : ((k - ((E.n : Int) - E.m) + c).tmod 2 != 0) = false) (hc : 0 ≤ c) (hc' : c ≤ 1100)(hk : -E.m ≤ k) (hk' : k ≤ E.n)
    (hQ : Hid (∀ a', Fx E a' → get a' 22 = .int .i64 c → get a' 30 = .int .i64 k → Q .normal a' w)) :
    Code.wp Try.prog (sub [true, true, true, true, true, true, false, true, false, false, true, false, false, true, true, false, false, true, false, false, false] (bodyOf Try.f33)) Q a w := by
  conv => arg 2; whnf
  obtain ⟨hd, hs, g0, g1, g3, g10, g11, g12, g13, g14, g15, g16, g17, g18, g19, g20⟩ := hF
  have sz' := sz
  obtain ⟨z1, z2, z3, z4, z5, z6, z7, z8, z9, z10, e1, e2, e3, e4, e5, e6, e7, e8, e9, va, vb⟩ := sz'
  clear e1 e2 e3 e4 e5 e6 e7 e8 e9 va vb
  rw [lit33 a hd hs]
  generalize get a = g at *
  simp only [g0, g1, g3, g10, g11, g12, g13, g14, g15, g16, g17, g18, g19, g20, h22, h30]
  clear hd hs g0 g1 g3 g10 g11 g12 g13 g14 g15 g16 g17 g18 g19 g20 h22 h30
  go_wp2
  exact hQ.out _ ⟨rfl, rfl, rfl, rfl, rfl, rfl, rfl, rfl, rfl, rfl, rfl, rfl, rfl, rfl, rfl, rfl⟩ rfl rfl
set_option maxHeartbeats 1000000 in
set_option maxRecDepth 100000 in
theorem b45_yes {E : E33} {a : Act} {w : World} {F G : Int → Int} {s c k : Int} {Q : Exit → Act → World → Prop} (sz : Sz E) (hF : Fx E a) (h22 : get a 22 = .int .i64 c) (h30 : get a 30 = .int .i64 k) (ok : Ok E w F G s) (h0 : 0 ≤ s - 1) (hs2 : s ≤ 9223372036854775807)
    (hQ : Hid (∀ a', Fx E a' → get a' 22 = .int .i64 c → get a' 30 = .int .i64 k → Q .normal a' (w.setCell ⟨E.pd, 6, none⟩ (.int .i64 (s - 1))))) :
    Code.wp Try.prog (sub [true, true, true, true, true, true, false, true, false, false, true, false, false, true, true, false, false, true, false, false, true, false] (bodyOf Try.f33)) Q a w := by
  conv => arg 2; whnf
  obtain ⟨hd, hs, g0, g1, g3, g10, g11, g12, g13, g14, g15, g16, g17, g18, g19, g20⟩ := hF
  have sz' := sz
  obtain ⟨z1, z2, z3, z4, z5, z6, z7, z8, z9, z10, e1, e2, e3, e4, e5, e6, e7, e8, e9, va, vb⟩ := sz'
  clear e1 e2 e3 e4 e5 e6 e7 e8 e9 va vb
  have c6 := ok.d6
  have z6 := ok.dfz 6
  clear ok
  rw [lit33 a hd hs]
  generalize get a = g at *
  simp only [g0, g1, g3, g10, g11, g12, g13, g14, g15, g16, g17, g18, g19, g20, h22, h30]
  clear hd hs g0 g1 g3 g10 g11 g12 g13 g14 g15 g16 g17 g18 g19 g20 h22 h30
  go_wp2
  exact hQ.out _ ⟨rfl, rfl, rfl, rfl, rfl, rfl, rfl, rfl, rfl, rfl, rfl, rfl, rfl, rfl, rfl, rfl⟩ rfl rfl
set_option maxHeartbeats 1000000 in
set_option maxRecDepth 100000 in
theorem b45_no {E : E33} {a : Act} {w : World} {F G : Int → Int} {s c k : Int} {Q : Exit → Act → World → Prop} (sz : Sz E) (hF : Fx E a) (h22 : get a 22 = .int .i64 c) (h30 : get a 30 = .int .i64 k) (ok : Ok E w F G s) (h0 : s - 1 < 0) (hs2 : -4611686018427387904 ≤ s)
    (hQ : Hid (∀ a', Rt a' 0 0 0 0 false → Q .ret a' (w.setCell ⟨E.pd, 6, none⟩ (.int .i64 (s - 1))))) :
    Code.wp Try.prog (sub [true, true, true, true, true, true, false, true, false, false, true, false, false, true, true, false, false, true, false, false, true, false] (bodyOf Try.f33)) Q a w := by
  conv => arg 2; whnf
  obtain ⟨hd, hs, g0, g1, g3, g10, g11, g12, g13, g14, g15, g16, g17, g18, g19, g20⟩ := hF
  have sz' := sz
  obtain ⟨z1, z2, z3, z4, z5, z6, z7, z8, z9, z10, e1, e2, e3, e4, e5, e6, e7, e8, e9, va, vb⟩ := sz'
  clear e1 e2 e3 e4 e5 e6 e7 e8 e9 va vb
  have c6 := ok.d6
  have z6 := ok.dfz 6
  clear ok
  rw [lit33 a hd hs]
  generalize get a = g at *
  simp only [g0, g1, g3, g10, g11, g12, g13, g14, g15, g16, g17, g18, g19, g20, h22, h30]
  clear hd hs g0 g1 g3 g10 g11 g12 g13 g14 g15 g16 g17 g18 g19 g20 h22 h30
  go_wp2
  exact hQ.out _ ⟨rfl, rfl, rfl, rfl, rfl, rfl⟩
set_option maxHeartbeats 1000000 in
set_option maxRecDepth 100000 in
theorem b48 {E : E33} {a : Act} {w : World} {c k : Int} {Q : Exit → Act → World → Prop} (sz : Sz E) (hF : Fx E a) (h22 : get a 22 = .int .i64 c) (h30 : get a 30 = .int .i64 k) 
    (hQ : Hid (∀ a', Fx E a' → get a' 22 = .int .i64 c → get a' 30 = .int .i64 k → get a' 31 = .int .i64 ((E.n : Int) + 1) → Q .normal a' w)) :
    Code.wp Try.prog (sub [true, true, true, true, true, true, false, true, false, false, true, false, false, true, true, false, false, true, false, false, true, true, false] (bodyOf Try.f33)) Q a w := by
  conv => arg 2; whnf
  obtain ⟨hd, hs, g0, g1, g3, g10, g11, g12, g13, g14, g15, g16, g17, g18, g19, g20⟩ := hF
  have sz' := sz
  obtain ⟨z1, z2, z3, z4, z5, z6, z7, z8, z9, z10, e1, e2, e3, e4, e5, e6, e7, e8, e9, va, vb⟩ := sz'
  clear e1 e2 e3 e4 e5 e6 e7 e8 e9 va vb
  rw [lit33 a hd hs]
  generalize get a = g at *
  simp only [g0, g1, g3, g10, g11, g12, g13, g14, g15, g16, g17, g18, g19, g20, h22, h30]
  clear hd hs g0 g1 g3 g10 g11 g12 g13 g14 g15 g16 g17 g18 g19 g20 h22 h30
  go_wp2
  exact hQ.out _ ⟨rfl, rfl, rfl, rfl, rfl, rfl, rfl, rfl, rfl, rfl, rfl, rfl, rfl, rfl, rfl, rfl⟩ rfl rfl rfl
set_option maxHeartbeats 1000000 in
set_option maxRecDepth 100000 in
theorem b49 {E : E33} {a : Act} {w : World} {c k : Int} {Q : Exit → Act → World → Prop} (sz : Sz E) (hF : Fx E a) (h22 : get a 22 = .int .i64 c) (h30 : get a 30 = .int .i64 k) (h31 : get a 31 = .int .i64 ((E.n : Int) + 1)) (hc : 0 ≤ c) (hc' : c ≤ 1100)
    (hQ : Hid (∀ a', Fx E a' → get a' 22 = .int .i64 c → get a' 30 = .int .i64 k → get a' 31 = .int .i64 (if c = 0 then (E.n : Int) else (E.n : Int) + 1) → Q .normal a' w)) :
    Code.wp Try.prog (sub [true, true, true, true, true, true, false, true, false, false, true, false, false, true, true, false, false, true, false, false, true, true, true, false] (bodyOf Try.f33)) Q a w := by
  conv => arg 2; whnf
  obtain ⟨hd, hs, g0, g1, g3, g10, g11, g12, g13, g14, g15, g16, g17, g18, g19, g20⟩ := hF
  have sz' := sz
  obtain ⟨z1, z2, z3, z4, z5, z6, z7, z8, z9, z10, e1, e2, e3, e4, e5, e6, e7, e8, e9, va, vb⟩ := sz'
  clear e1 e2 e3 e4 e5 e6 e7 e8 e9 va vb
  rw [lit33 a hd hs]
  generalize get a = g at *
  simp only [g0, g1, g3, g10, g11, g12, g13, g14, g15, g16, g17, g18, g19, g20, h22, h30, h31]
  clear hd hs g0 g1 g3 g10 g11 g12 g13 g14 g15 g16 g17 g18 g19 g20 h22 h30 h31
  by_cases h0 : c = 0
  · subst h0
    go_wp2
    exact hQ.out _ ⟨rfl, rfl, rfl, rfl, rfl, rfl, rfl, rfl, rfl, rfl, rfl, rfl, rfl, rfl, rfl, rfl⟩ rfl rfl rfl
  · have hb : (c == 0) = false := by simp [h0]
    have H : Hid (¬ c = 0) := h0
    clear h0
    go_wp2
    exact hQ.out _ ⟨rfl, rfl, rfl, rfl, rfl, rfl, rfl, rfl, rfl, rfl, rfl, rfl, rfl, rfl, rfl, rfl⟩ rfl rfl (by rw [if_neg H.out]; rfl)
set_option maxHeartbeats 1000000 in
set_option maxRecDepth 100000 in
theorem b51 {E : E33} {a : Act} {w : World} {F G : Int → Int} {s c k x : Int} {Q : Exit → Act → World → Prop} (sz : Sz E) (hF : Fx E a) (h22 : get a 22 = .int .i64 c) (h30 : get a 30 = .int .i64 k) (h31 : get a 31 = .int .i64 x) (ok : Ok E w F G s) (hc : 0 ≤ c) (hc' : c ≤ 1100)(hk : -E.m ≤ k) (hk' : k ≤ E.n)
    (hQ : Hid (∀ a', Fx E a' → get a' 22 = .int .i64 c → get a' 30 = .int .i64 k → get a' 31 = .int .i64 (if k < ((E.n : Int) - E.m) + c ∧ 0 < G (k + 1) then G (k + 1) - 1 else x) → Q .normal a' w)) :
    Code.wp Try.prog (sub [true, true, true, true, true, true, false, true, false, false, true, false, false, true, true, false, false, true, false, false, true, true, true, true, false] (bodyOf Try.f33)) Q a w := by
  conv => arg 2; whnf
  obtain ⟨hd, hs, g0, g1, g3, g10, g11, g12, g13, g14, g15, g16, g17, g18, g19, g20⟩ := hF
  have sz' := sz
  obtain ⟨z1, z2, z3, z4, z5, z6, z7, z8, z9, z10, e1, e2, e3, e4, e5, e6, e7, e8, e9, va, vb⟩ := sz'
  clear e1 e2 e3 e4 e5 e6 e7 e8 e9 va vb
  have hcell := ok.g (k + 1) (by omega) (by omega)
  have hb := ok.gb (k + 1)
  clear ok
  rw [lit33 a hd hs]
  generalize get a = g at *
  simp only [g0, g1, g3, g10, g11, g12, g13, g14, g15, g16, g17, g18, g19, g20, h22, h30, h31]
  clear hd hs g0 g1 g3 g10 g11 g12 g13 g14 g15 g16 g17 g18 g19 g20 h22 h30 h31
  go_wp2
  all_goals exact hQ.out _ ⟨rfl, rfl, rfl, rfl, rfl, rfl, rfl, rfl, rfl, rfl, rfl, rfl, rfl, rfl, rfl, rfl⟩ rfl rfl (congrArg (Value.int .i64) (by split <;> omega))
set_option maxHeartbeats 1000000 in
set_option maxRecDepth 100000 in
theorem b55 {E : E33} {a : Act} {w : World} {F G : Int → Int} {s c k x : Int} {Q : Exit → Act → World → Prop} (sz : Sz E) (hF : Fx E a) (h22 : get a 22 = .int .i64 c) (h30 : get a 30 = .int .i64 k) (h31 : get a 31 = .int .i64 x) (ok : Ok E w F G s) (hx : -1 ≤ x) (hx' : x ≤ E.n + 1) (hc : 0 ≤ c) (hc' : c ≤ 1100)(hk : -E.m ≤ k) (hk' : k ≤ E.n)
    (hQ : Hid (∀ a', Fx E a' → get a' 22 = .int .i64 c → get a' 30 = .int .i64 k → get a' 31 = .int .i64 (if ((E.n : Int) - E.m) - c < k ∧ 0 ≤ G (k - 1) ∧ 0 < G (k - 1) - (k - 1) then min x (G (k - 1)) else x) → Q .normal a' w)) :
    Code.wp Try.prog (sub [true, true, true, true, true, true, false, true, false, false, true, false, false, true, true, false, false, true, false, false, true, true, true, true, true, false] (bodyOf Try.f33)) Q a w := by
  conv => arg 2; whnf
  obtain ⟨hd, hs, g0, g1, g3, g10, g11, g12, g13, g14, g15, g16, g17, g18, g19, g20⟩ := hF
  have sz' := sz
  obtain ⟨z1, z2, z3, z4, z5, z6, z7, z8, z9, z10, e1, e2, e3, e4, e5, e6, e7, e8, e9, va, vb⟩ := sz'
  clear e1 e2 e3 e4 e5 e6 e7 e8 e9 va vb
  have hcell := ok.g (k - 1) (by omega) (by omega)
  have hb := ok.gb (k - 1)
  clear ok
  rw [lit33 a hd hs]
  generalize get a = g at *
  simp only [g0, g1, g3, g10, g11, g12, g13, g14, g15, g16, g17, g18, g19, g20, h22, h30, h31]
  clear hd hs g0 g1 g3 g10 g11 g12 g13 g14 g15 g16 g17 g18 g19 g20 h22 h30 h31
  go_wp2
  all_goals exact hQ.out _ ⟨rfl, rfl, rfl, rfl, rfl, rfl, rfl, rfl, rfl, rfl, rfl, rfl, rfl, rfl, rfl, rfl⟩ rfl rfl (congrArg (Value.int .i64) (by split <;> omega))
set_option maxHeartbeats 1000000 in
set_option maxRecDepth 100000 in
theorem b59_no {E : E33} {a : Act} {w : World} {c k x : Int} {Q : Exit → Act → World → Prop} (sz : Sz E) (hF : Fx E a) (h22 : get a 22 = .int .i64 c) (h30 : get a 30 = .int .i64 k) (h31 : get a 31 = .int .i64 x) (hx : E.n < x)
    (hQ : Hid (∀ a', Fx E a' → get a' 22 = .int .i64 c → get a' 30 = .int .i64 k → Q (.exit 9) a' w)) :
    Code.wp Try.prog (sub [true, true, true, true, true, true, false, true, false, false, true, false, false, true, true, false, false, true, false, false, true, true, true, true, true, true, false] (bodyOf Try.f33)) Q a w := by
  conv => arg 2; whnf
  obtain ⟨hd, hs, g0, g1, g3, g10, g11, g12, g13, g14, g15, g16, g17, g18, g19, g20⟩ := hF
  have sz' := sz
  obtain ⟨z1, z2, z3, z4, z5, z6, z7, z8, z9, z10, e1, e2, e3, e4, e5, e6, e7, e8, e9, va, vb⟩ := sz'
  clear e1 e2 e3 e4 e5 e6 e7 e8 e9 va vb
  rw [lit33 a hd hs]
  generalize get a = g at *
  simp only [g0, g1, g3, g10, g11, g12, g13, g14, g15, g16, g17, g18, g19, g20, h22, h30, h31]
  clear hd hs g0 g1 g3 g10 g11 g12 g13 g14 g15 g16 g17 g18 g19 g20 h22 h30 h31
  go_wp2
  exact hQ.out _ ⟨rfl, rfl, rfl, rfl, rfl, rfl, rfl, rfl, rfl, rfl, rfl, rfl, rfl, rfl, rfl, rfl⟩ rfl rfl
set_option maxHeartbeats 1000000 in
set_option maxRecDepth 100000 in
theorem b59_yes {E : E33} {a : Act} {w : World} {c k x : Int} {Q : Exit → Act → World → Prop} (sz : Sz E) (hF : Fx E a) (h22 : get a 22 = .int .i64 c) (h30 : get a 30 = .int .i64 k) (h31 : get a 31 = .int .i64 x) (hx : x ≤ E.n)
    (hQ : Hid (∀ a', Fx E a' → get a' 22 = .int .i64 c → get a' 30 = .int .i64 k → get a' 31 = .int .i64 x → Q .normal a' w)) :
    Code.wp Try.prog (sub [true, true, true, true, true, true, false, true, false, false, true, false, false, true, true, false, false, true, false, false, true, true, true, true, true, true, false] (bodyOf Try.f33)) Q a w := by
  conv => arg 2; whnf
  obtain ⟨hd, hs, g0, g1, g3, g10, g11, g12, g13, g14, g15, g16, g17, g18, g19, g20⟩ := hF
  have sz' := sz
  obtain ⟨z1, z2, z3, z4, z5, z6, z7, z8, z9, z10, e1, e2, e3, e4, e5, e6, e7, e8, e9, va, vb⟩ := sz'
  clear e1 e2 e3 e4 e5 e6 e7 e8 e9 va vb
  rw [lit33 a hd hs]
  generalize get a = g at *
  simp only [g0, g1, g3, g10, g11, g12, g13, g14, g15, g16, g17, g18, g19, g20, h22, h30, h31]
  clear hd hs g0 g1 g3 g10 g11 g12 g13 g14 g15 g16 g17 g18 g19 g20 h22 h30 h31
  go_wp2
  exact hQ.out _ ⟨rfl, rfl, rfl, rfl, rfl, rfl, rfl, rfl, rfl, rfl, rfl, rfl, rfl, rfl, rfl, rfl⟩ rfl rfl rfl
set_option maxHeartbeats 1000000 in
set_option maxRecDepth 100000 in
theorem b60 {E : E33} {a : Act} {w : World} {c k x : Int} {Q : Exit → Act → World → Prop} (sz : Sz E) (hF : Fx E a) (h22 : get a 22 = .int .i64 c) (h30 : get a 30 = .int .i64 k) (h31 : get a 31 = .int .i64 x) (hx : 0 ≤ x) (hx' : x ≤ E.n) (hk : -E.m ≤ k) (hk' : k ≤ E.n)
    (hQ : Hid (∀ a', Fx E a' → get a' 22 = .int .i64 c → get a' 30 = .int .i64 k → get a' 31 = .int .i64 x → get a' 34 = .int .i64 x → get a' 35 = .int .i64 (x - k) → Q .normal a' w)) :
    Code.wp Try.prog (sub [true, true, true, true, true, true, false, true, false, false, true, false, false, true, true, false, false, true, false, false, true, true, true, true, true, true, true, false] (bodyOf Try.f33)) Q a w := by
  conv => arg 2; whnf
  obtain ⟨hd, hs, g0, g1, g3, g10, g11, g12, g13, g14, g15, g16, g17, g18, g19, g20⟩ := hF
  have sz' := sz
  obtain ⟨z1, z2, z3, z4, z5, z6, z7, z8, z9, z10, e1, e2, e3, e4, e5, e6, e7, e8, e9, va, vb⟩ := sz'
  clear e1 e2 e3 e4 e5 e6 e7 e8 e9 va vb
  rw [lit33 a hd hs]
  generalize get a = g at *
  simp only [g0, g1, g3, g10, g11, g12, g13, g14, g15, g16, g17, g18, g19, g20, h22, h30, h31]
  clear hd hs g0 g1 g3 g10 g11 g12 g13 g14 g15 g16 g17 g18 g19 g20 h22 h30 h31
  go_wp2
  exact hQ.out _ ⟨rfl, rfl, rfl, rfl, rfl, rfl, rfl, rfl, rfl, rfl, rfl, rfl, rfl, rfl, rfl, rfl⟩ rfl rfl rfl rfl rfl
set_option maxHeartbeats 1000000 in
set_option maxRecDepth 100000 in
theorem b61_yes {E : E33} {a : Act} {w : World} {F G : Int → Int} {s c k x ex ey : Int} {Q : Exit → Act → World → Prop} (sz : Sz E) (hF : Fx E a) (h22 : get a 22 = .int .i64 c) (h30 : get a 30 = .int .i64 k) (h31 : get a 31 = .int .i64 x) (h34 : get a 34 = .int .i64 ex) (h35 : get a 35 = .int .i64 ey) (ok : Ok E w F G s) (hs0 : -4611686018427387904 ≤ s) (hs1 : s ≤ 9223372036854775807) (hx : 0 ≤ x) (hxn : x ≤ E.n) (hk2 : x - k ≤ E.m) (hk : -E.m ≤ k) (hk3 : k ≤ E.n) (hx0 : 0 < x) (hxk : 0 < x - k) (heq : (E.A ((E.x0 + x).toNat - 1) == E.B ((E.y0 + x - k).toNat - 1)) = true)
    (hQ : Hid (∀ a' w', Fx E a' → get a' 22 = .int .i64 c → get a' 30 = .int .i64 k → get a' 31 = .int .i64 (x - 1) → get a' 34 = .int .i64 ex → get a' 35 = .int .i64 ey → Ok E w' F G (s - 1) → Sm E w w' → Q .normal a' w')) :
    Code.wp Try.prog (sub [true, true, true, true, true, true, false, true, false, false, true, false, false, true, true, false, false, true, false, false, true, true, true, true, true, true, true, true, false, false, false] (bodyOf Try.f33)) Q a w := by
  conv => arg 2; whnf
  obtain ⟨hd, hs, g0, g1, g3, g10, g11, g12, g13, g14, g15, g16, g17, g18, g19, g20⟩ := hF
  have sz' := sz
  obtain ⟨z1, z2, z3, z4, z5, z6, z7, z8, z9, z10, e1, e2, e3, e4, e5, e6, e7, e8, e9, va, vb⟩ := sz'
  clear e1 e2 e3 e4 e5 e6 e7 e8 e9 va vb
  have c6 := ok.d6
  have z6 := ok.dfz 6
  have c0 := ok.d0
  have c1 := ok.d1
  have hkx : k < x := by omega
  rw [sz.va (by omega)] at c0
  rw [sz.vb (by omega)] at c1
  have cA := ok.aa ((E.x0 + x).toNat - 1) (by omega)
  have cB := ok.bb ((E.y0 + x - k).toNat - 1) (by omega)
  rw [lit33 a hd hs]
  generalize get a = g at *
  simp only [g0, g1, g3, g10, g11, g12, g13, g14, g15, g16, g17, g18, g19, g20, h22, h30, h31, h34, h35]
  clear hd hs g0 g1 g3 g10 g11 g12 g13 g14 g15 g16 g17 g18 g19 g20 h22 h30 h31 h34 h35
  have OK : Hid (Ok E w F G s) := ok
  clear ok
  go_wp2
  go_quiet (fail)
  go_wp2
  exact hQ.out _ _ ⟨rfl, rfl, rfl, rfl, rfl, rfl, rfl, rfl, rfl, rfl, rfl, rfl, rfl, rfl, rfl, rfl⟩ rfl rfl rfl rfl rfl ((OK.out.drewN _).setS sz _) (((Sm.refl E w).drewN _).setCell (.inl rfl) _)
set_option maxHeartbeats 1000000 in
set_option maxRecDepth 100000 in
theorem b61_no1 {E : E33} {a : Act} {w : World} {F G : Int → Int} {s c k x ex ey : Int} {Q : Exit → Act → World → Prop} (sz : Sz E) (hF : Fx E a) (h22 : get a 22 = .int .i64 c) (h30 : get a 30 = .int .i64 k) (h31 : get a 31 = .int .i64 x) (h34 : get a 34 = .int .i64 ex) (h35 : get a 35 = .int .i64 ey) (ok : Ok E w F G s) (hs0 : -4611686018427387904 ≤ s) (hs1 : s ≤ 9223372036854775807) (hx : 0 ≤ x) (hxn : x ≤ E.n) (hk2 : x - k ≤ E.m) (hk : -E.m ≤ k) (hk3 : k ≤ E.n) (hx0 : x ≤ 0)
    (hQ : Hid (∀ a' w', Fx E a' → get a' 22 = .int .i64 c → get a' 30 = .int .i64 k → get a' 31 = .int .i64 x → get a' 34 = .int .i64 ex → get a' 35 = .int .i64 ey → Ok E w' F G s → Sm E w w' → Q (.exit 10) a' w')) :
    Code.wp Try.prog (sub [true, true, true, true, true, true, false, true, false, false, true, false, false, true, true, false, false, true, false, false, true, true, true, true, true, true, true, true, false, false, false] (bodyOf Try.f33)) Q a w := by
  conv => arg 2; whnf
  obtain ⟨hd, hs, g0, g1, g3, g10, g11, g12, g13, g14, g15, g16, g17, g18, g19, g20⟩ := hF
  have sz' := sz
  obtain ⟨z1, z2, z3, z4, z5, z6, z7, z8, z9, z10, e1, e2, e3, e4, e5, e6, e7, e8, e9, va, vb⟩ := sz'
  clear e1 e2 e3 e4 e5 e6 e7 e8 e9 va vb
  have c6 := ok.d6
  have z6 := ok.dfz 6
  have c0 := ok.d0
  have c1 := ok.d1
  have hdd : decide (0 < x) = false := by simp; omega
  rw [lit33 a hd hs]
  generalize get a = g at *
  simp only [g0, g1, g3, g10, g11, g12, g13, g14, g15, g16, g17, g18, g19, g20, h22, h30, h31, h34, h35]
  clear hd hs g0 g1 g3 g10 g11 g12 g13 g14 g15 g16 g17 g18 g19 g20 h22 h30 h31 h34 h35
  have OK : Hid (Ok E w F G s) := ok
  clear ok
  go_wp2
  go_quiet (fail)
  go_wp2
  exact hQ.out _ _ ⟨rfl, rfl, rfl, rfl, rfl, rfl, rfl, rfl, rfl, rfl, rfl, rfl, rfl, rfl, rfl, rfl⟩ rfl rfl rfl rfl rfl (OK.out.drewN _) ((Sm.refl E w).drewN _)
set_option maxHeartbeats 1000000 in
set_option maxRecDepth 100000 in
theorem b61_no2 {E : E33} {a : Act} {w : World} {F G : Int → Int} {s c k x ex ey : Int} {Q : Exit → Act → World → Prop} (sz : Sz E) (hF : Fx E a) (h22 : get a 22 = .int .i64 c) (h30 : get a 30 = .int .i64 k) (h31 : get a 31 = .int .i64 x) (h34 : get a 34 = .int .i64 ex) (h35 : get a 35 = .int .i64 ey) (ok : Ok E w F G s) (hs0 : -4611686018427387904 ≤ s) (hs1 : s ≤ 9223372036854775807) (hx : 0 ≤ x) (hxn : x ≤ E.n) (hk2 : x - k ≤ E.m) (hk : -E.m ≤ k) (hk3 : k ≤ E.n) (hx0 : 0 < x) (hxk : x - k ≤ 0)
    (hQ : Hid (∀ a' w', Fx E a' → get a' 22 = .int .i64 c → get a' 30 = .int .i64 k → get a' 31 = .int .i64 x → get a' 34 = .int .i64 ex → get a' 35 = .int .i64 ey → Ok E w' F G s → Sm E w w' → Q (.exit 10) a' w')) :
    Code.wp Try.prog (sub [true, true, true, true, true, true, false, true, false, false, true, false, false, true, true, false, false, true, false, false, true, true, true, true, true, true, true, true, false, false, false] (bodyOf Try.f33)) Q a w := by
  conv => arg 2; whnf
  obtain ⟨hd, hs, g0, g1, g3, g10, g11, g12, g13, g14, g15, g16, g17, g18, g19, g20⟩ := hF
  have sz' := sz
  obtain ⟨z1, z2, z3, z4, z5, z6, z7, z8, z9, z10, e1, e2, e3, e4, e5, e6, e7, e8, e9, va, vb⟩ := sz'
  clear e1 e2 e3 e4 e5 e6 e7 e8 e9 va vb
  have c6 := ok.d6
  have z6 := ok.dfz 6
  have c0 := ok.d0
  have c1 := ok.d1
  have hdd : decide (k < x) = false := by simp; omega
  have hkx : x ≤ k := by omega
  rw [lit33 a hd hs]
  generalize get a = g at *
  simp only [g0, g1, g3, g10, g11, g12, g13, g14, g15, g16, g17, g18, g19, g20, h22, h30, h31, h34, h35]
  clear hd hs g0 g1 g3 g10 g11 g12 g13 g14 g15 g16 g17 g18 g19 g20 h22 h30 h31 h34 h35
  have OK : Hid (Ok E w F G s) := ok
  clear ok
  go_wp2
  go_quiet (fail)
  go_wp2
  exact hQ.out _ _ ⟨rfl, rfl, rfl, rfl, rfl, rfl, rfl, rfl, rfl, rfl, rfl, rfl, rfl, rfl, rfl, rfl⟩ rfl rfl rfl rfl rfl (OK.out.drewN _) ((Sm.refl E w).drewN _)
set_option maxHeartbeats 1000000 in
set_option maxRecDepth 100000 in
theorem b61_no3 {E : E33} {a : Act} {w : World} {F G : Int → Int} {s c k x ex ey : Int} {Q : Exit → Act → World → Prop} (sz : Sz E) (hF : Fx E a) (h22 : get a 22 = .int .i64 c) (h30 : get a 30 = .int .i64 k) (h31 : get a 31 = .int .i64 x) (h34 : get a 34 = .int .i64 ex) (h35 : get a 35 = .int .i64 ey) (ok : Ok E w F G s) (hs0 : -4611686018427387904 ≤ s) (hs1 : s ≤ 9223372036854775807) (hx : 0 ≤ x) (hxn : x ≤ E.n) (hk2 : x - k ≤ E.m) (hk : -E.m ≤ k) (hk3 : k ≤ E.n) (hx0 : 0 < x) (hxk : 0 < x - k) (heq : (E.A ((E.x0 + x).toNat - 1) == E.B ((E.y0 + x - k).toNat - 1)) = false)
    (hQ : Hid (∀ a' w', Fx E a' → get a' 22 = .int .i64 c → get a' 30 = .int .i64 k → get a' 31 = .int .i64 x → get a' 34 = .int .i64 ex → get a' 35 = .int .i64 ey → Ok E w' F G s → Sm E w w' → Q (.exit 10) a' w')) :
    Code.wp Try.prog (sub [true, true, true, true, true, true, false, true, false, false, true, false, false, true, true, false, false, true, false, false, true, true, true, true, true, true, true, true, false, false, false] (bodyOf Try.f33)) Q a w := by
  conv => arg 2; whnf
  obtain ⟨hd, hs, g0, g1, g3, g10, g11, g12, g13, g14, g15, g16, g17, g18, g19, g20⟩ := hF
  have sz' := sz
  obtain ⟨z1, z2, z3, z4, z5, z6, z7, z8, z9, z10, e1, e2, e3, e4, e5, e6, e7, e8, e9, va, vb⟩ := sz'
  clear e1 e2 e3 e4 e5 e6 e7 e8 e9 va vb
  have c6 := ok.d6
  have z6 := ok.dfz 6
  have c0 := ok.d0
  have c1 := ok.d1
  have hkx : k < x := by omega
  rw [sz.va (by omega)] at c0
  rw [sz.vb (by omega)] at c1
  have cA := ok.aa ((E.x0 + x).toNat - 1) (by omega)
  have cB := ok.bb ((E.y0 + x - k).toNat - 1) (by omega)
  rw [lit33 a hd hs]
  generalize get a = g at *
  simp only [g0, g1, g3, g10, g11, g12, g13, g14, g15, g16, g17, g18, g19, g20, h22, h30, h31, h34, h35]
  clear hd hs g0 g1 g3 g10 g11 g12 g13 g14 g15 g16 g17 g18 g19 g20 h22 h30 h31 h34 h35
  have OK : Hid (Ok E w F G s) := ok
  clear ok
  go_wp2
  go_quiet (fail)
  go_wp2
  exact hQ.out _ _ ⟨rfl, rfl, rfl, rfl, rfl, rfl, rfl, rfl, rfl, rfl, rfl, rfl, rfl, rfl, rfl, rfl⟩ rfl rfl rfl rfl rfl (OK.out.drewN _) ((Sm.refl E w).drewN _)
set_option maxHeartbeats 1000000 in
set_option maxRecDepth 100000 in
theorem b64 {E : E33} {a : Act} {w : World} {F G : Int → Int} {s c k x ex ey : Int} {Q : Exit → Act → World → Prop} (sz : Sz E) (hF : Fx E a) (h22 : get a 22 = .int .i64 c) (h30 : get a 30 = .int .i64 k) (h31 : get a 31 = .int .i64 x) (h34 : get a 34 = .int .i64 ex) (h35 : get a 35 = .int .i64 ey) (ok : Ok E w F G s) (hkx : x - k ≤ E.m) (hx : 0 ≤ x) (hx' : x ≤ E.n) (hk : -E.m ≤ k) (hk' : k ≤ E.n)
    (hQ : Hid (∀ a' w', Fx E a' → get a' 22 = .int .i64 c → get a' 30 = .int .i64 k → get a' 31 = .int .i64 x → get a' 34 = .int .i64 ex → get a' 35 = .int .i64 ey → Ok E w' F (if G k < 0 ∨ x < G k then My.put G k x else G) s → Sm E w w' → Q .normal a' w')) :
    Code.wp Try.prog (sub [true, true, true, true, true, true, false, true, false, false, true, false, false, true, true, false, false, true, false, false, true, true, true, true, true, true, true, true, true, false] (bodyOf Try.f33)) Q a w := by
  conv => arg 2; whnf
  obtain ⟨hd, hs, g0, g1, g3, g10, g11, g12, g13, g14, g15, g16, g17, g18, g19, g20⟩ := hF
  have sz' := sz
  obtain ⟨z1, z2, z3, z4, z5, z6, z7, z8, z9, z10, e1, e2, e3, e4, e5, e6, e7, e8, e9, va, vb⟩ := sz'
  clear e1 e2 e3 e4 e5 e6 e7 e8 e9 va vb
  have cg := ok.g k (by omega) (by omega)
  have zg := ok.gfz (k + (E.m + 1)).toNat
  have hb := ok.gb k
  rw [lit33 a hd hs]
  generalize get a = g at *
  simp only [g0, g1, g3, g10, g11, g12, g13, g14, g15, g16, g17, g18, g19, g20, h22, h30, h31, h34, h35]
  clear hd hs g0 g1 g3 g10 g11 g12 g13 g14 g15 g16 g17 g18 g19 g20 h22 h30 h31 h34 h35
  have OK : Hid (Ok E w F G s) := ok
  clear ok
  by_cases h1 : G k < 0
  · go_wp2
    refine hQ.out _ _ ⟨rfl, rfl, rfl, rfl, rfl, rfl, rfl, rfl, rfl, rfl, rfl, rfl, rfl, rfl, rfl, rfl⟩ rfl rfl rfl rfl rfl ?_ ((Sm.refl E w).setCell (.inr (.inr rfl)) _)
    rw [if_pos (.inl (by omega))]; exact OK.out.setG sz k x (by omega) (by omega) (by omega) (by omega)
  · have h2 : 0 ≤ G k := by omega
    clear h1
    by_cases h3 : x < G k
    · go_wp2
      refine hQ.out _ _ ⟨rfl, rfl, rfl, rfl, rfl, rfl, rfl, rfl, rfl, rfl, rfl, rfl, rfl, rfl, rfl, rfl⟩ rfl rfl rfl rfl rfl ?_ ((Sm.refl E w).setCell (.inr (.inr rfl)) _)
      rw [if_pos (.inr (by omega))]; exact OK.out.setG sz k x (by omega) (by omega) (by omega) (by omega)
    · have h4 : G k ≤ x := by omega
      clear h3
      go_wp2
      refine hQ.out _ _ ⟨rfl, rfl, rfl, rfl, rfl, rfl, rfl, rfl, rfl, rfl, rfl, rfl, rfl, rfl, rfl, rfl⟩ rfl rfl rfl rfl rfl ?_ (Sm.refl E w)
      rw [if_neg (by omega)]; exact OK.out
set_option maxHeartbeats 1000000 in
set_option maxRecDepth 100000 in
theorem b67 {E : E33} {a : Act} {w : World} {F G : Int → Int} {s c k x ex ey : Int} {Q : Exit → Act → World → Prop} (sz : Sz E) (hF : Fx E a) (h22 : get a 22 = .int .i64 c) (h30 : get a 30 = .int .i64 k) (h31 : get a 31 = .int .i64 x) (h34 : get a 34 = .int .i64 ex) (h35 : get a 35 = .int .i64 ey) (ok : Ok E w F G s) (hx : 0 ≤ x) (hx' : x ≤ E.n) (hc : 0 ≤ c) (hc' : c ≤ 1100)(hk : -E.m ≤ k) (hk' : k ≤ E.n)
    (hQ : Hid (¬ (((E.n : Int) - E.m) % 2 = 0 ∧ -c ≤ k ∧ k ≤ c ∧ x ≤ F k) → ∀ a', Fx E a' → get a' 22 = .int .i64 c → get a' 30 = .int .i64 k → Q .normal a' w)) (hR : Hid (((E.n : Int) - E.m) % 2 = 0 ∧ -c ≤ k ∧ k ≤ c ∧ x ≤ F k → ∀ a', Rt a' x (x - k) ex ey true → Q .ret a' w)) :
    Code.wp Try.prog (sub [true, true, true, true, true, true, false, true, false, false, true, false, false, true, true, false, false, true, false, false, true, true, true, true, true, true, true, true, true, true] (bodyOf Try.f33)) Q a w := by
  conv => arg 2; whnf
  obtain ⟨hd, hs, g0, g1, g3, g10, g11, g12, g13, g14, g15, g16, g17, g18, g19, g20⟩ := hF
  have sz' := sz
  obtain ⟨z1, z2, z3, z4, z5, z6, z7, z8, z9, z10, e1, e2, e3, e4, e5, e6, e7, e8, e9, va, vb⟩ := sz'
  clear e1 e2 e3 e4 e5 e6 e7 e8 e9 va vb
  have cf := ok.f k (by omega) (by omega)
  have hb := ok.fb k
  clear ok
  rw [lit33 a hd hs]
  generalize get a = g at *
  simp only [g0, g1, g3, g10, g11, g12, g13, g14, g15, g16, g17, g18, g19, g20, h22, h30, h31, h34, h35]
  clear hd hs g0 g1 g3 g10 g11 g12 g13 g14 g15 g16 g17 g18 g19 g20 h22 h30 h31 h34 h35
  by_cases hp : ((E.n : Int) - E.m) % 2 = 0
  · have hpb : (((E.n : Int) - E.m).tmod 2 == 0) = true := by rw [tm2e]; simp [hp]
    have HP : Hid (((E.n : Int) - E.m) % 2 = 0) := hp
    clear hp
    go_wp2
    all_goals first
      | exact hR.out ⟨HP.out, by omega, by omega, by omega⟩ _ ⟨rfl, rfl, rfl, rfl, rfl, rfl⟩
      | exact hQ.out (by omega) _ ⟨rfl, rfl, rfl, rfl, rfl, rfl, rfl, rfl, rfl, rfl, rfl, rfl, rfl, rfl, rfl, rfl⟩ rfl rfl
  · have hpb : (((E.n : Int) - E.m).tmod 2 == 0) = false := by rw [tm2e]; simp [hp]
    have HP : Hid (¬ ((E.n : Int) - E.m) % 2 = 0) := hp
    clear hp
    go_wp2
    exact hQ.out (fun h => HP.out h.1) _ ⟨rfl, rfl, rfl, rfl, rfl, rfl, rfl, rfl, rfl, rfl, rfl, rfl, rfl, rfl, rfl, rfl⟩ rfl rfl
set_option maxHeartbeats 1000000 in
set_option maxRecDepth 100000 in
theorem b43 {E : E33} {a : Act} {w : World} {c k : Int} {Q : Exit → Act → World → Prop} (sz : Sz E) (hF : Fx E a) (h22 : get a 22 = .int .i64 c) (h30 : get a 30 = .int .i64 k) (hk : -3100 ≤ k)  (hk' : k ≤ 3100)
    (hQ : Hid (∀ a', Fx E a' → get a' 22 = .int .i64 c → get a' 30 = .int .i64 (k - 1) → Q .normal a' w)) :
    Code.wp Try.prog (sub [true, true, true, true, true, true, false, true, false, false, true, false, false, true, true, false, false, true, true] (bodyOf Try.f33)) Q a w := by
  conv => arg 2; whnf
  obtain ⟨hd, hs, g0, g1, g3, g10, g11, g12, g13, g14, g15, g16, g17, g18, g19, g20⟩ := hF
  have sz' := sz
  obtain ⟨z1, z2, z3, z4, z5, z6, z7, z8, z9, z10, e1, e2, e3, e4, e5, e6, e7, e8, e9, va, vb⟩ := sz'
  clear e1 e2 e3 e4 e5 e6 e7 e8 e9 va vb
  rw [lit33 a hd hs]
  generalize get a = g at *
  simp only [g0, g1, g3, g10, g11, g12, g13, g14, g15, g16, g17, g18, g19, g20, h22, h30]
  clear hd hs g0 g1 g3 g10 g11 g12 g13 g14 g15 g16 g17 g18 g19 g20 h22 h30
  go_wp2
  exact hQ.out _ ⟨rfl, rfl, rfl, rfl, rfl, rfl, rfl, rfl, rfl, rfl, rfl, rfl, rfl, rfl, rfl, rfl⟩ rfl rfl
set_option maxHeartbeats 1000000 in
set_option maxRecDepth 100000 in
theorem f13 {E : E33} {a : Act} {w : World} {c : Int} {Q : Exit → Act → World → Prop} (sz : Sz E) (hF : Fx E a) (h22 : get a 22 = .int .i64 c) (hc : 0 ≤ c) (hc' : c ≤ 1100)
    (hQ : Hid (∀ a', Fx E a' → get a' 22 = .int .i64 c → get a' 23 = .int .i64 (min c E.n) → Q .normal a' w)) :
    Code.wp Try.prog (sub [true, true, true, true, true, true, false, true, false, false, true, false, false, false, false] (bodyOf Try.f33)) Q a w := by
  conv => arg 2; whnf
  obtain ⟨hd, hs, g0, g1, g3, g10, g11, g12, g13, g14, g15, g16, g17, g18, g19, g20⟩ := hF
  have sz' := sz
  obtain ⟨z1, z2, z3, z4, z5, z6, z7, z8, z9, z10, e1, e2, e3, e4, e5, e6, e7, e8, e9, va, vb⟩ := sz'
  clear e1 e2 e3 e4 e5 e6 e7 e8 e9 va vb
  rw [lit33 a hd hs]
  generalize get a = g at *
  simp only [g0, g1, g3, g10, g11, g12, g13, g14, g15, g16, g17, g18, g19, g20, h22]
  clear hd hs g0 g1 g3 g10 g11 g12 g13 g14 g15 g16 g17 g18 g19 g20 h22
  go_wp2
  all_goals exact hQ.out _ ⟨rfl, rfl, rfl, rfl, rfl, rfl, rfl, rfl, rfl, rfl, rfl, rfl, rfl, rfl, rfl, rfl⟩ rfl (congrArg (Value.int .i64) (by omega))
set_option maxHeartbeats 1000000 in
set_option maxRecDepth 100000 in
theorem b41 {E : E33} {a : Act} {w : World} {c : Int} {Q : Exit → Act → World → Prop} (sz : Sz E) (hF : Fx E a) (h22 : get a 22 = .int .i64 c) (hc : 0 ≤ c) (hc' : c ≤ 1100)
    (hQ : Hid (∀ a', Fx E a' → get a' 22 = .int .i64 c → get a' 30 = .int .i64 (min (((E.n : Int) - E.m) + c) E.n) → Q .normal a' w)) :
    Code.wp Try.prog (sub [true, true, true, true, true, true, false, true, false, false, true, false, false, true, false] (bodyOf Try.f33)) Q a w := by
  conv => arg 2; whnf
  obtain ⟨hd, hs, g0, g1, g3, g10, g11, g12, g13, g14, g15, g16, g17, g18, g19, g20⟩ := hF
  have sz' := sz
  obtain ⟨z1, z2, z3, z4, z5, z6, z7, z8, z9, z10, e1, e2, e3, e4, e5, e6, e7, e8, e9, va, vb⟩ := sz'
  clear e1 e2 e3 e4 e5 e6 e7 e8 e9 va vb
  rw [lit33 a hd hs]
  generalize get a = g at *
  simp only [g0, g1, g3, g10, g11, g12, g13, g14, g15, g16, g17, g18, g19, g20, h22]
  clear hd hs g0 g1 g3 g10 g11 g12 g13 g14 g15 g16 g17 g18 g19 g20 h22
  go_wp2
  all_goals exact hQ.out _ ⟨rfl, rfl, rfl, rfl, rfl, rfl, rfl, rfl, rfl, rfl, rfl, rfl, rfl, rfl, rfl, rfl⟩ rfl (congrArg (Value.int .i64) (by omega))
set_option maxHeartbeats 1000000 in
set_option maxRecDepth 100000 in
theorem o11_in {E : E33} {a : Act} {w : World} {c : Int} {Q : Exit → Act → World → Prop} (sz : Sz E) (hF : Fx E a) (h22 : get a 22 = .int .i64 c) (hc : 0 ≤ c) (hc' : c ≤ 1100) (hc2 : c ≤ ((E.n : Int) + E.m + 1) / 2)
    (hQ : Hid (∀ a', Fx E a' → get a' 22 = .int .i64 c → Q .normal a' w)) :
    Code.wp Try.prog (sub [true, true, true, true, true, true, false, true, false, false, false] (bodyOf Try.f33)) Q a w := by
  conv => arg 2; whnf
  obtain ⟨hd, hs, g0, g1, g3, g10, g11, g12, g13, g14, g15, g16, g17, g18, g19, g20⟩ := hF
  have sz' := sz
  obtain ⟨z1, z2, z3, z4, z5, z6, z7, z8, z9, z10, e1, e2, e3, e4, e5, e6, e7, e8, e9, va, vb⟩ := sz'
  clear e1 e2 e3 e4 e5 e6 e7 e8 e9 va vb
  rw [lit33 a hd hs]
  generalize get a = g at *
  simp only [g0, g1, g3, g10, g11, g12, g13, g14, g15, g16, g17, g18, g19, g20, h22]
  clear hd hs g0 g1 g3 g10 g11 g12 g13 g14 g15 g16 g17 g18 g19 g20 h22
  go_wp2
  exact hQ.out _ ⟨rfl, rfl, rfl, rfl, rfl, rfl, rfl, rfl, rfl, rfl, rfl, rfl, rfl, rfl, rfl, rfl⟩ rfl
set_option maxHeartbeats 1000000 in
set_option maxRecDepth 100000 in
theorem o11_out {E : E33} {a : Act} {w : World} {c : Int} {Q : Exit → Act → World → Prop} (sz : Sz E) (hF : Fx E a) (h22 : get a 22 = .int .i64 c) (hc : 0 ≤ c) (hc' : c ≤ 1100) (hc2 : ((E.n : Int) + E.m + 1) / 2 < c)
    (hQ : Hid (∀ a', Fx E a' → Q (.exit 2) a' w)) :
    Code.wp Try.prog (sub [true, true, true, true, true, true, false, true, false, false, false] (bodyOf Try.f33)) Q a w := by
  conv => arg 2; whnf
  obtain ⟨hd, hs, g0, g1, g3, g10, g11, g12, g13, g14, g15, g16, g17, g18, g19, g20⟩ := hF
  have sz' := sz
  obtain ⟨z1, z2, z3, z4, z5, z6, z7, z8, z9, z10, e1, e2, e3, e4, e5, e6, e7, e8, e9, va, vb⟩ := sz'
  clear e1 e2 e3 e4 e5 e6 e7 e8 e9 va vb
  rw [lit33 a hd hs]
  generalize get a = g at *
  simp only [g0, g1, g3, g10, g11, g12, g13, g14, g15, g16, g17, g18, g19, g20, h22]
  clear hd hs g0 g1 g3 g10 g11 g12 g13 g14 g15 g16 g17 g18 g19 g20 h22
  go_wp2
  exact hQ.out _ ⟨rfl, rfl, rfl, rfl, rfl, rfl, rfl, rfl, rfl, rfl, rfl, rfl, rfl, rfl, rfl, rfl⟩
set_option maxHeartbeats 1000000 in
set_option maxRecDepth 100000 in
theorem o12 {E : E33} {a : Act} {w : World} {c : Int} {Q : Exit → Act → World → Prop} (sz : Sz E) (hF : Fx E a) (h22 : get a 22 = .int .i64 c) (hc : 0 ≤ c) (hc' : c ≤ 1100)
    (hQ : Hid (∀ a', Fx E a' → get a' 22 = .int .i64 (c + 1) → Q .normal a' w)) :
    Code.wp Try.prog (sub [true, true, true, true, true, true, false, true, false, false, true, true] (bodyOf Try.f33)) Q a w := by
  conv => arg 2; whnf
  obtain ⟨hd, hs, g0, g1, g3, g10, g11, g12, g13, g14, g15, g16, g17, g18, g19, g20⟩ := hF
  have sz' := sz
  obtain ⟨z1, z2, z3, z4, z5, z6, z7, z8, z9, z10, e1, e2, e3, e4, e5, e6, e7, e8, e9, va, vb⟩ := sz'
  clear e1 e2 e3 e4 e5 e6 e7 e8 e9 va vb
  rw [lit33 a hd hs]
  generalize get a = g at *
  simp only [g0, g1, g3, g10, g11, g12, g13, g14, g15, g16, g17, g18, g19, g20, h22]
  clear hd hs g0 g1 g3 g10 g11 g12 g13 g14 g15 g16 g17 g18 g19 g20 h22
  go_wp2
  exact hQ.out _ ⟨rfl, rfl, rfl, rfl, rfl, rfl, rfl, rfl, rfl, rfl, rfl, rfl, rfl, rfl, rfl, rfl⟩ rfl
end Go.Proofs.Qxb6601687a
