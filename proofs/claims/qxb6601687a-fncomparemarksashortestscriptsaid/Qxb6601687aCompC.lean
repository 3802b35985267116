/-
  THE WALK OF compare (function 32), part 3: the search and the two halves.
-/
import Derived.Test.Qxb6601687aCompB
namespace Go.Proofs.Qxb6601687a
open Go.RowKit
set_option linter.unusedVariables false
set_option linter.unusedSimpArgs false

def E32 (C : C32) (fb gb N i0 j0 n m : Nat) : E33 :=
  { pd := C.pd, fb := fb, gb := gb, ab := C.ab, bb := C.bb, N := N, n := n, m := m, T := 42, la := C.la, ca := C.ca, lb := C.lb, cb := C.cb, x0 := i0, y0 := j0, va := C.va, vb := C.vb, vd := .slice (some ⟨C.db, 0, none⟩) C.la C.la, vi := .slice (some ⟨C.ib, 0, none⟩) C.lb C.lb, A := C.A, B := C.B }

theorem E32.sz {C : C32} {w : World} {fb gb N i0 j0 n m : Nat} (sz : Sz2 C) (al : Al C w fb gb N) (hn : i0 + n ≤ C.la) (hm : j0 + m ≤ C.lb) (hN : n + m + 3 ≤ N) : Sz (E32 C fb gb N i0 j0 n m) := by
  have h1 := sz.la
  have h2 := sz.lb
  constructor <;> simp only [E32]
  case va => intro h; exact sz.va (by omega)
  case vb => intro h; exact sz.vb (by omega)
  case d1 => exact al.f1
  case d2 => exact al.g1
  case d3 => exact al.fg
  case d4 => exact sz.e1
  case d5 => exact al.f2
  case d6 => exact al.g2
  case d7 => exact sz.e2
  case d8 => exact al.f3
  case d9 => exact al.g3
  case NN => exact al.NN
  all_goals omega

theorem E32.o0 {C : C32} {w : World} {dl il : Nat → Bool} {s : Int} {fb gb N : Nat} (i0 j0 n m : Nat) (mem : M C w dl il s (.slice (some ⟨fb, 0, none⟩) N N) (.slice (some ⟨gb, 0, none⟩) N N)) (al : Al C w fb gb N) : O0 (E32 C fb gb N i0 j0 n m) w s 0 := by
  obtain ⟨a1, a2, a3⟩ := al.ff
  obtain ⟨b1, b2, b3⟩ := al.gg
  exact ⟨mem.dd, ⟨a1, a2, a3, by omega⟩, ⟨b1, b2, b3, by omega⟩, mem.aa, mem.bb⟩

theorem E32.after {C : C32} {w w' : World} {dl il : Nat → Bool} {s s' : Int} {fb gb N i0 j0 n m : Nat} {F G : Int → Int} (sz : Sz2 C) (mem : M C w dl il s (.slice (some ⟨fb, 0, none⟩) N N) (.slice (some ⟨gb, 0, none⟩) N N)) (al : Al C w fb gb N)
    (ok : Ok (E32 C fb gb N i0 j0 n m) w' F G s') (sm : Sm (E32 C fb gb N i0 j0 n m) w w') :
    M C w' dl il s' (.slice (some ⟨fb, 0, none⟩) N N) (.slice (some ⟨gb, 0, none⟩) N N) ∧ Al C w' fb gb N ∧ Sk C fb gb w w' := by
  obtain ⟨arr, f1, f2, f3⟩ := ok.ff
  obtain ⟨grr, g1, g2, g3⟩ := ok.gg
  obtain ⟨drr, d1, d2, d3⟩ := mem.dv
  obtain ⟨irr, i1, i2, i3⟩ := mem.iv
  refine ⟨⟨ok.dd, ⟨drr, ?_, d2, d3⟩, ⟨irr, ?_, i2, i3⟩, ok.aa, ok.bb⟩, ⟨⟨arr, f1, f2⟩, ⟨grr, g1, g2⟩, al.fg, al.f1, al.f2, al.f3, al.f4, al.f5, al.g1, al.g2, al.g3, al.g4, al.g5, al.NN⟩, ⟨sm.os, sm.tape, sm.output, sm.size, fun k h1 _ _ h4 h5 => sm.block k h1 h4 h5⟩⟩
  · rw [sm.block C.db sz.e3 al.f4 al.g4]; exact d1
  · rw [sm.block C.ib sz.e4 al.f5 al.g5]; exact i1

set_option maxHeartbeats 1000000 in
set_option maxRecDepth 100000 in
theorem p18 {C : C32} {a : Act} {w : World} {dl il : Nat → Bool} {i0 j0 i j n m fb gb N : Nat} {s : Int} {Q : Exit → Act → World → Prop} (sz : Sz2 C) (hF : Fy C a) (h1 : get a 1 = .int .i64 i0) (h2 : get a 2 = .int .i64 ((i0 : Int) + n)) (h3 : get a 3 = .int .i64 j0) (h4 : get a 4 = .int .i64 ((j0 : Int) + m)) (mem : M C w dl il s (.slice (some ⟨fb, 0, none⟩) N N) (.slice (some ⟨gb, 0, none⟩) N N)) (al : Al C w fb gb N) (hn : i0 + n ≤ C.la) (hm : j0 + m ≤ C.lb) (hNs : n + m + 3 ≤ N) (hs0 : -2147483648 ≤ s) (hs1 : s ≤ 9223372036854775807)
    (hN : Hid (∀ s', My.ms (fun i => C.A (i0 + i)) (fun j => C.B (j0 + j)) n m s = (none, s') → ∀ a' w', Fy C a' → get a' 1 = .int .i64 i0 → get a' 2 = .int .i64 ((i0 : Int) + n) → get a' 3 = .int .i64 j0 → get a' 4 = .int .i64 ((j0 : Int) + m) → get a' 18 = .bool false → M C w' dl il s' (.slice (some ⟨fb, 0, none⟩) N N) (.slice (some ⟨gb, 0, none⟩) N N) → Al C w' fb gb N → Sk C fb gb w w' → Q .normal a' w'))
    (hS : Hid (∀ r s', My.ms (fun i => C.A (i0 + i)) (fun j => C.B (j0 + j)) n m s = (some r, s') → ∀ a' w', Fy C a' → get a' 1 = .int .i64 i0 → get a' 2 = .int .i64 ((i0 : Int) + n) → get a' 3 = .int .i64 j0 → get a' 4 = .int .i64 ((j0 : Int) + m) → get a' 14 = .int .i64 r.1 → get a' 15 = .int .i64 r.2.1 → get a' 16 = .int .i64 r.2.2.1 → get a' 17 = .int .i64 r.2.2.2 → get a' 18 = .bool true → M C w' dl il s' (.slice (some ⟨fb, 0, none⟩) N N) (.slice (some ⟨gb, 0, none⟩) N N) → Al C w' fb gb N → Sk C fb gb w w' → Q .normal a' w')) :
    Code.wp Try.prog (sub2 [true, true, true, true, true, false] (bodyOf Try.f32)) Q a w := by
  conv => arg 2; whnf
  obtain ⟨hd, hs, g0, g10⟩ := hF
  rw [lit32 a hd hs]
  generalize get a = g at *
  simp only [g0, g10, h1, h2, h3, h4]
  clear hd hs g0 g10 h1 h2 h3 h4
  have SZ := E32.sz (i0 := i0) (j0 := j0) (n := n) (m := m) sz al hn hm hNs
  have O := E32.o0 i0 j0 n m mem al
  have SZ' : Hid (Sz (E32 C fb gb N i0 j0 n m)) := SZ
  have O' : Hid (O0 (E32 C fb gb N i0 j0 n m) w s 0) := O
  have MEM : Hid (M C w dl il s (.slice (some ⟨fb, 0, none⟩) N N) (.slice (some ⟨gb, 0, none⟩) N N)) := mem
  have AL : Hid (Al C w fb gb N) := al
  clear SZ O mem al
  have EA : Hid ((E32 C fb gb N i0 j0 n m).a = fun i => C.A (i0 + i)) := by show (E32 C fb gb N i0 j0 n m).a = _; funext i; simp [E33.a, E32]
  have EB : Hid ((E32 C fb gb N i0 j0 n m).b = fun i => C.B (j0 + i)) := by show (E32 C fb gb N i0 j0 n m).b = _; funext i; simp [E33.b, E32]
  go_wp2_with fail
  refine (ms_any (E32 C fb gb N i0 j0 n m) SZ'.out s w O'.out hs0 hs1).mono ?_
  rintro e w' ⟨rfl, ⟨F, G, ok⟩, sm⟩
  rw [EA.out, EB.out] at ok ⊢
  have AFT : Hid (M C w' dl il (My.ms (fun i => C.A (i0 + i)) (fun j => C.B (j0 + j)) n m s).2 (.slice (some ⟨fb, 0, none⟩) N N) (.slice (some ⟨gb, 0, none⟩) N N) ∧ Al C w' fb gb N ∧ Sk C fb gb w w') := E32.after sz MEM.out AL.out ok sm
  clear ok sm
  have e1 : My.ms (fun i => C.A (i0 + i)) (fun j => C.B (j0 + j)) (E32 C fb gb N i0 j0 n m).n (E32 C fb gb N i0 j0 n m).m s = My.ms (fun i => C.A (i0 + i)) (fun j => C.B (j0 + j)) n m s := rfl
  rw [e1]
  clear e1
  generalize hr : My.ms (fun i => C.A (i0 + i)) (fun j => C.B (j0 + j)) n m s = res at *
  obtain ⟨o, s'⟩ := res
  cases o with
  | none =>
    simp only [back]
    go_wp2_with fail
    exact hN.out s' rfl _ _ ⟨rfl, rfl, rfl, rfl⟩ rfl rfl rfl rfl rfl AFT.out.1 AFT.out.2.1 AFT.out.2.2
  | some r =>
    simp only [back]
    go_wp2_with fail
    exact hS.out r s' rfl _ _ ⟨rfl, rfl, rfl, rfl⟩ rfl rfl rfl rfl rfl rfl rfl rfl rfl AFT.out.1 AFT.out.2.1 AFT.out.2.2
set_option maxHeartbeats 1000000 in
set_option maxRecDepth 100000 in
theorem p19_no {C : C32} {a : Act} {w : World} {i0 j0 n m : Nat} {Q : Exit → Act → World → Prop} (sz : Sz2 C) (hF : Fy C a) (h1 : get a 1 = .int .i64 i0) (h2 : get a 2 = .int .i64 ((i0 : Int) + n)) (h3 : get a 3 = .int .i64 j0) (h4 : get a 4 = .int .i64 ((j0 : Int) + m)) (h18 : get a 18 = .bool false) 
    (hQ : Hid (∀ a', a'.defers = [] → get a' 10 = .bool false → Q .ret a' w)) :
    Code.wp Try.prog (sub2 [true, true, true, true, true, true, false] (bodyOf Try.f32)) Q a w := by
  conv => arg 2; whnf
  obtain ⟨hd, hs, g0, g10⟩ := hF
  rw [lit32 a hd hs]
  generalize get a = g at *
  simp only [g0, g10, h1, h2, h3, h4, h18]
  clear hd hs g0 g10 h1 h2 h3 h4 h18
  go_wp2
  exact hQ.out _ rfl rfl
set_option maxHeartbeats 1000000 in
set_option maxRecDepth 100000 in
theorem p19_yes {C : C32} {a : Act} {w : World} {i0 j0 n m x0 y0 x1 y1 : Nat} {Q : Exit → Act → World → Prop} (sz : Sz2 C) (hF : Fy C a) (h1 : get a 1 = .int .i64 i0) (h2 : get a 2 = .int .i64 ((i0 : Int) + n)) (h3 : get a 3 = .int .i64 j0) (h4 : get a 4 = .int .i64 ((j0 : Int) + m)) (h14 : get a 14 = .int .i64 (x0 : Int)) (h15 : get a 15 = .int .i64 (y0 : Int)) (h16 : get a 16 = .int .i64 (x1 : Int)) (h17 : get a 17 = .int .i64 (y1 : Int)) (h18 : get a 18 = .bool true) (hB : i0 ≤ 1024) (hB2 : j0 ≤ 1024) (hB3 : n ≤ 1024) (hB4 : m ≤ 1024) (hs1 : x0 = n → y0 ≠ m) (hs2 : x1 = 0 → y1 ≠ 0)
    (hQ : Hid (∀ a', Fy C a' → get a' 1 = .int .i64 i0 → get a' 2 = .int .i64 ((i0 : Int) + n) → get a' 3 = .int .i64 j0 → get a' 4 = .int .i64 ((j0 : Int) + m) → get a' 14 = .int .i64 (x0 : Int) → get a' 15 = .int .i64 (y0 : Int) → get a' 16 = .int .i64 (x1 : Int) → get a' 17 = .int .i64 (y1 : Int) → get a' 18 = .bool true → Q .normal a' w)) :
    Code.wp Try.prog (sub2 [true, true, true, true, true, true, false] (bodyOf Try.f32)) Q a w := by
  conv => arg 2; whnf
  obtain ⟨hd, hs, g0, g10⟩ := hF
  rw [lit32 a hd hs]
  generalize get a = g at *
  simp only [g0, g10, h1, h2, h3, h4, h14, h15, h16, h17, h18]
  clear hd hs g0 g10 h1 h2 h3 h4 h14 h15 h16 h17 h18
  have e1 : ((x0 : Int) == (i0 : Int) + n - i0) = decide (x0 = n) := by rw [Bool.eq_iff_iff]; simp; omega
  have e2 : ((y0 : Int) == (j0 : Int) + m - j0) = decide (y0 = m) := by rw [Bool.eq_iff_iff]; simp; omega
  have e3 : ((x1 : Int) == 0) = decide (x1 = 0) := by rw [Bool.eq_iff_iff]; simp
  have e4 : ((y1 : Int) == 0) = decide (y1 = 0) := by rw [Bool.eq_iff_iff]; simp
  have D1 : (decide (x0 = n) = true ∧ decide (y0 = m) = false) ∨ decide (x0 = n) = false := by
    by_cases h : x0 = n
    · exact .inl ⟨by simp [h], by simp [hs1 h]⟩
    · exact .inr (by simp [h])
  have D2 : (decide (x1 = 0) = true ∧ decide (y1 = 0) = false) ∨ decide (x1 = 0) = false := by
    by_cases h : x1 = 0
    · exact .inl ⟨by simp [h], by simp [hs2 h]⟩
    · exact .inr (by simp [h])
  clear hs1 hs2
  rcases D1 with ⟨d1, d2⟩ | d1 <;> rcases D2 with ⟨d3, d4⟩ | d3
  all_goals
    first | rw [d1, ] at e1 | skip
    first | rw [d2] at e2 | skip
    first | rw [d3] at e3 | skip
    first | rw [d4] at e4 | skip
  · clear d1 d2 d3 d4
    go_wp2
    exact hQ.out _ ⟨rfl, rfl, rfl, rfl⟩ rfl rfl rfl rfl rfl rfl rfl rfl rfl
  · clear d1 d2 d3 e4
    go_wp2
    exact hQ.out _ ⟨rfl, rfl, rfl, rfl⟩ rfl rfl rfl rfl rfl rfl rfl rfl rfl
  · clear d1 e2 d3 d4
    go_wp2
    exact hQ.out _ ⟨rfl, rfl, rfl, rfl⟩ rfl rfl rfl rfl rfl rfl rfl rfl rfl
  · clear d1 e2 d3 e4
    go_wp2
    exact hQ.out _ ⟨rfl, rfl, rfl, rfl⟩ rfl rfl rfl rfl rfl rfl rfl rfl rfl
end Go.Proofs.Qxb6601687a
