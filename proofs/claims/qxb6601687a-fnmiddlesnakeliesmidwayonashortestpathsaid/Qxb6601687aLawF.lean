/-
  FnMiddleSnakeLiesMidwayOnAShortestPath (function 6): the walk put together.
-/
import Derived.Test.Qxb6601687aLawFx
namespace Go.Proofs.Qxb6601687a
open Go.RowKit
set_option linter.unusedVariables false
set_option linter.unusedSimpArgs false

theorem results12 {fn : Func} (h : fn.results = #[.tmp 12]) (tmps : Array Value) (P : Program) (w : World) : (results fn tmps).run P w = .ok (tmps.getD 12 undef) w := by
  simp [results, h]

theorem some_of {α : Type} {aa : Option α} {x : α} {n : Nat} (h : (aa = none ∧ n = 0) ∨ aa = some x) (h0 : 0 < n) : aa = some x := by
  rcases h with h | h
  · exact absurd h.2 (by omega)
  · exact h

theorem c6_14 : sub2 [true, true, true, true, true, true, true, true, true, true, true, true, true, true] (bodyOf Try.f6) = .seq (sub2 [true, true, true, true, true, true, true, true, true, true, true, true, true, true, false] (bodyOf Try.f6)) (sub2 [true, true, true, true, true, true, true, true, true, true, true, true, true, true, true] (bodyOf Try.f6)) := by kernel_rfl
theorem c6_15 : sub2 [true, true, true, true, true, true, true, true, true, true, true, true, true, true, true] (bodyOf Try.f6) = .seq (sub2 [true, true, true, true, true, true, true, true, true, true, true, true, true, true, true, false] (bodyOf Try.f6)) (sub2 [true, true, true, true, true, true, true, true, true, true, true, true, true, true, true, true] (bodyOf Try.f6)) := by kernel_rfl
theorem c6_16 : sub2 [true, true, true, true, true, true, true, true, true, true, true, true, true, true, true, true] (bodyOf Try.f6) = .seq (sub2 [true, true, true, true, true, true, true, true, true, true, true, true, true, true, true, true, false] (bodyOf Try.f6)) (sub2 [true, true, true, true, true, true, true, true, true, true, true, true, true, true, true, true, true] (bodyOf Try.f6)) := by kernel_rfl
set_option maxHeartbeats 4000000 in
set_option maxRecDepth 100000 in
theorem law6_main (a0 : Option Addr) (len0 cap0 : Nat) (z0 : List Int) (a1 : Option Addr) (len1 cap1 : Nat) (z1 : List Int) (i0 j0 n m : Nat) (w : World) (w0 : Row .i32 w a0 len0 cap0 z0) (w1 : Row .i32 w a1 len1 cap1 z1)
    (hb0 : len0 ≤ 1024) (hb1 : len1 ≤ 1024) (hi1 : i0 + n ≤ len0) (hj1 : j0 + m ≤ len1) :
    Calls Try.prog 6 #[.slice a0 len0 cap0, .slice a1 len1 cap1, .int .i64 i0, .int .i64 ((i0 : Int) + n), .int .i64 j0, .int .i64 ((j0 : Int) + m)] w fun e w' => e = .returned (.bool true) ∧ Below w.heap.size w w' := by
  have hl0 := w0.len
  have hl1 := w1.len
  have W0 : Hid (Row .i32 w a0 len0 cap0 z0) := w0
  have W1 : Hid (Row .i32 w a1 len1 cap1 z1) := w1
  clear w0 w1
  have HF : Hid ((0 : Int) ≤ i0 ∧ (i0 : Int) ≤ (i0 : Int) + n ∧ (i0 : Int) + n ≤ len0 ∧ (0 : Int) ≤ j0 ∧ (j0 : Int) ≤ (j0 : Int) + m ∧ (j0 : Int) + m ≤ len1) := by show _ ∧ _; omega
  go_enter Try.func6, Try.ntmps6
  go_wp2_with fail
  refine (bytes20 _ _ _ _ _ _ _ _ _ _ _ hl0 hl1).mono ?_
  rintro e w' ⟨⟨b, rfl, hb⟩, rfl⟩
  obtain rfl := hb hb0 hb1
  clear hb
  go_wp2_with fail
  refine (fit12 _ _ _ _ _ _ _ _ _ _ _ HF.out).mono ?_
  rintro e v0 ⟨rfl, rfl⟩
  go_wp2_with fail
  refine (clone_in a0 len0 cap0 z0 _ W0.out hb0).mono ?_
  rintro e v1 ⟨aa, rfl, q1, q2, q3⟩
  have Q1 : Hid ((aa = none ∧ len0 = 0) ∨ aa = some ⟨v0.heap.size, 0, none⟩) := q1
  have Q2 : Hid (Below v0.heap.size v0 v1) := q2
  have Q3 : Hid (In v1 v0.heap.size len0 (fun i => z0.getD i 0)) := q3
  clear q1 q2 q3
  go_wp2_with fail
  refine (clone_in a1 len1 cap1 z1 _ (W1.out.below Q2.out) hb1).mono ?_
  rintro e v2 ⟨ba, rfl, q1, q2, q3⟩
  have R1 : Hid ((ba = none ∧ len1 = 0) ∨ ba = some ⟨v1.heap.size, 0, none⟩) := q1
  have R3 : Hid (In v2 v1.heap.size len1 (fun i => z1.getD i 0)) := q3
  have R4 : Hid (In v2 v0.heap.size len0 (fun i => z0.getD i 0)) := Q3.out.of_below q2
  have R5 : Hid (Below v0.heap.size v0 v2) := Q2.out.trans (q2.mono Q2.out.size)
  clear q1 q2 q3 Q2 Q3
  go_wp2_with fail
  refine (mz_law aa ba v0.heap.size v1.heap.size len0 len0 len1 len1 i0 j0 9223372036854775807 n m (fun i => z0.getD i 0) (fun i => z1.getD i 0) v2 (by omega) (by omega) (by omega) (by omega) hb0 hb1 (by omega) (by omega) (some_of Q1.out) (some_of R1.out) R4.out.lt R3.out.lt R4.out.cells R3.out.cells).mono ?_
  rintro e v3 ⟨rfl, t1⟩
  simp only [Int.toNat_natCast]
  obtain ⟨r, s', hms, good⟩ := My.ms_ample (fun i => z0.getD (i0 + i) 0) (fun i => z1.getD (j0 + i) 0) n m (by omega) (by omega) 9223372036854775807 (by omega)
  rw [hms]
  obtain ⟨r1, r2, r3, r4⟩ := r
  have g1 := good.x0; have g2 := good.x1; have g3 := good.xn; have g4 := good.y0; have g5 := good.y1; have g6 := good.ym; have g7 := good.len
  simp only [] at g1 g2 g3 g4 g5 g6 g7
  obtain ⟨x0, rfl⟩ := Int.eq_ofNat_of_zero_le g1
  obtain ⟨y0, rfl⟩ := Int.eq_ofNat_of_zero_le g4
  obtain ⟨x1, rfl⟩ := Int.eq_ofNat_of_zero_le (show 0 ≤ r3 by omega)
  obtain ⟨y1, rfl⟩ := Int.eq_ofNat_of_zero_le (show 0 ≤ r4 by omega)
  have GOOD : Hid (My.Good (fun i => z0.getD (i0 + i) 0) (fun i => z1.getD (j0 + i) 0) n m (↑x0, ↑y0, ↑x1, ↑y1)) := good
  have S1 : Hid (In v3 v0.heap.size len0 (fun i => z0.getD i 0)) := R4.out.of_below t1
  have S2 : Hid (In v3 v1.heap.size len1 (fun i => z1.getD i 0)) := R3.out.of_below t1
  have S3 : Hid (Below v0.heap.size v0 v3) := R5.out.trans (t1.mono R5.out.size)
  clear good hms t1 R3 R4 R5 g1 g4
  have hlen : ((x1 : Int) - x0 != (y1 : Int) - y0) = false := by simp; omega
  simp only [out6]
  go_wp2_with fail
  rename_i K hK
  have st : S6 { aa := aa, ba := ba, ab := v0.heap.size, bb := v1.heap.size, la := len0, lb := len1, i0 := i0, j0 := j0, n := n, m := m, x0 := x0, y0 := y0, x1 := x1, y1 := y1, A := fun i => z0.getD i 0, B := fun i => z1.getD i 0 } v3 :=
    ⟨Q1.out, R1.out, S1.out, S2.out, hb0, hb1, hi1, hj1, (by show x0 ≤ x1; omega), (by show x1 ≤ n; omega), (by show y0 ≤ y1; omega), (by show y1 ≤ m; omega), (by show x1 - x0 = y1 - y0; omega)⟩
  refine wp_loop_rounds (x1 - x0 + 1) ?_
  refine m6_rounds (Y := { aa := aa, ba := ba, ab := v0.heap.size, bb := v1.heap.size, la := len0, lb := len1, i0 := i0, j0 := j0, n := n, m := m, x0 := x0, y0 := y0, x1 := x1, y1 := y1, A := fun i => z0.getD i 0, B := fun i => z1.getD i 0 }) ?_ (x1 - x0) _ _ 0 ⟨rfl, rfl, rfl, rfl, rfl, rfl, rfl, rfl, rfl, rfl, rfl, rfl⟩ rfl st (Nat.zero_add _) ?_
  · intro k hk
    have h3 := GOOD.out.same k (by omega) (by simp only []; simp only [] at hk; omega)
    simp only [] at h3
    rw [show ((x0 : Int) + (k : Int)).toNat = x0 + k by omega, show ((y0 : Int) + (k : Int)).toNat = y0 + k by omega] at h3
    rw [show i0 + (x0 + k) = i0 + x0 + k by omega, show j0 + (y0 + k) = j0 + y0 + k by omega] at h3
    exact h3
  intro a w4 hF hb4
  have st4 := st.below hb4
  have B4 := S3.out.trans (hb4.mono S3.out.size)
  clear hb4 st
  show K a w4
  apply hK
  clear hK K
  show Code.wp Try.prog (sub2 [true, true, true, true, true, true, true, true, true, true, true, true, true, true] (bodyOf Try.f6)) _ a w4
  rw [c6_14]
  refine wp_seq ?_
  refine q25 (wh := 0) (hd_ := 0) hF st4 ?_
  clear hF a
  intro a w5 hF h22 hb5
  have st5 := st4.below hb5
  have B5 := B4.trans (hb5.mono B4.size)
  clear st4 B4 hb5
  show Code.wp Try.prog (sub2 [true, true, true, true, true, true, true, true, true, true, true, true, true, true, true] (bodyOf Try.f6)) _ a w5
  rw [c6_15]
  refine wp_seq ?_
  refine q26 (hd_ := 0) hF h22 st5 ?_
  clear hF h22 a
  intro a w6 hF h22 h23 hb6
  have st6 := st5.below hb6
  have B6 := B5.trans (hb6.mono B5.size)
  clear st5 B5 hb6
  show Code.wp Try.prog (sub2 [true, true, true, true, true, true, true, true, true, true, true, true, true, true, true, true] (bodyOf Try.f6)) _ a w6
  rw [c6_16]
  refine wp_seq ?_
  refine q27 hF h22 h23 st6 ?_
  clear hF h22 h23 a
  intro a w7 hF h22 h23 h24 hb7
  have st7 := st6.below hb7
  have B7 := B6.trans (hb7.mono B6.size)
  clear st6 B6 hb7
  show Code.wp Try.prog (sub2 [true, true, true, true, true, true, true, true, true, true, true, true, true, true, true, true, true] (bodyOf Try.f6)) _ a w7
  have tl := My.tail_e (fun i => z0.getD (i0 + i) 0) (fun i => z1.getD (j0 + i) 0) n m x1 y1 (by omega) (by omega)
  have wl := GOOD.out.whole
  have hf := GOOD.out.half
  simp only [] at wl hf
  unfold My.D at wl hf
  rw [← tl] at wl
  have b1 := My.d_nat (fun i => z0.getD (i0 + i) 0) (fun i => z1.getD (j0 + i) 0) n m
  have b2 := My.L_le (fun i => z0.getD (i0 + i) 0) (fun i => z1.getD (j0 + i) 0) n m
  have b3 := My.d_nat (fun i => z0.getD (i0 + i) 0) (fun i => z1.getD (j0 + i) 0) x0 y0
  have b4 := My.L_le (fun i => z0.getD (i0 + i) 0) (fun i => z1.getD (j0 + i) 0) x0 y0
  have b5 := My.d_nat (fun i => z0.getD (i0 + (x1 + i)) 0) (fun i => z1.getD (j0 + (y1 + i)) 0) (n - x1) (m - y1)
  have b6 := My.L_le (fun i => z0.getD (i0 + (x1 + i)) 0) (fun i => z1.getD (j0 + (y1 + i)) 0) (n - x1) (m - y1)
  have eA : (fun i => z0.getD (i0 + x1 + i) 0) = (fun i => z0.getD (i0 + (x1 + i)) 0) := funext fun i => by rw [Nat.add_assoc]
  have eB : (fun i => z1.getD (j0 + y1 + i) 0) = (fun i => z1.getD (j0 + (y1 + i)) 0) := funext fun i => by rw [Nat.add_assoc]
  simp only [eA, eB] at h24
  simp only [] at h22 h23
  refine q28 hF h22 h23 h24 st7 wl hf (by omega) (by omega) (by omega) (by omega) ?_
  intro a' hd h12
  refine bodyPost_ret (v := .bool true) ?_ hd ⟨rfl, B7⟩
  rw [results12 rfl]; unfold get at h12; rw [h12]

set_option maxHeartbeats 4000000 in
set_option maxRecDepth 100000 in
theorem law6 (a0 : Option Addr) (len0 cap0 : Nat) (z0 : List Int) (a1 : Option Addr) (len1 cap1 : Nat) (z1 : List Int) (a2 a3 a4 a5 : Int) (w : World) (w0 : Row .i32 w a0 len0 cap0 z0) (w1 : Row .i32 w a1 len1 cap1 z1) :
    Calls Try.prog 6 #[.slice a0 len0 cap0, .slice a1 len1 cap1, .int .i64 a2, .int .i64 a3, .int .i64 a4, .int .i64 a5] w fun e w' => e = .returned (.bool true) ∧ Below w.heap.size w w' := by
  have hl0 := w0.len
  have hl1 := w1.len
  by_cases hb0 : len0 ≤ 1024
  case neg =>
    have hb0' : 1024 < len0 := by omega
    clear hb0 w0 w1
    go_enter Try.func6, Try.ntmps6
    go_wp2_with fail
    refine (bytes20 _ _ _ _ _ _ _ _ _ _ _ hl0 hl1).mono ?_
    rintro e w' ⟨⟨b, rfl, hb⟩, rfl⟩
    clear hb
    cases b
    all_goals
      go_wp2_with fail
      go_ret
      exact ⟨rfl, Below.refl _ _⟩
  by_cases hb1 : len1 ≤ 1024
  case neg =>
    have hb1' : 1024 < len1 := by omega
    clear hb1 w0 w1
    go_enter Try.func6, Try.ntmps6
    go_wp2_with fail
    refine (bytes20 _ _ _ _ _ _ _ _ _ _ _ hl0 hl1).mono ?_
    rintro e w' ⟨⟨b, rfl, hb⟩, rfl⟩
    clear hb
    cases b
    all_goals
      go_wp2_with fail
      go_ret
      exact ⟨rfl, Below.refl _ _⟩
  by_cases hfit : 0 ≤ a2 ∧ a2 ≤ a3 ∧ a3 ≤ len0 ∧ 0 ≤ a4 ∧ a4 ≤ a5 ∧ a5 ≤ len1
  case neg =>
    have HF : Hid (¬ (0 ≤ a2 ∧ a2 ≤ a3 ∧ a3 ≤ len0 ∧ 0 ≤ a4 ∧ a4 ≤ a5 ∧ a5 ≤ len1)) := hfit
    clear hfit w0 w1
    go_enter Try.func6, Try.ntmps6
    go_wp2_with fail
    refine (bytes20 _ _ _ _ _ _ _ _ _ _ _ hl0 hl1).mono ?_
    rintro e w' ⟨⟨b, rfl, hb⟩, rfl⟩
    obtain rfl := hb hb0 hb1
    clear hb
    go_wp2_with fail
    refine (fit12_no _ _ _ _ _ _ _ _ _ _ _ HF.out).mono ?_
    rintro e w' ⟨rfl, rfl⟩
    go_wp2_with fail
    go_ret
    exact ⟨rfl, Below.refl _ _⟩
  obtain ⟨p1, p2, p3, p4, p5, p6⟩ := hfit
  obtain ⟨i0, rfl⟩ := Int.eq_ofNat_of_zero_le p1
  obtain ⟨j0, rfl⟩ := Int.eq_ofNat_of_zero_le p4
  obtain ⟨n, hn⟩ : ∃ n : Nat, a3 = (i0 : Int) + n := ⟨(a3 - i0).toNat, by omega⟩
  obtain ⟨m, hm⟩ : ∃ m : Nat, a5 = (j0 : Int) + m := ⟨(a5 - j0).toNat, by omega⟩
  subst hn hm
  exact law6_main a0 len0 cap0 z0 a1 len1 cap1 z1 i0 j0 n m w w0 w1 hb0 hb1 (by omega) (by omega)
end Go.Proofs.Qxb6601687a
