/-
  FnCompareMarksAShortestScript (function 3).
-/
import Derived.Test.Qxb6601687aScrB
namespace Go.Proofs.Qxb6601687a
open Go.RowKit
set_option linter.unusedVariables false
set_option linter.unusedSimpArgs false

/-- THE COPY OF A SLICE, its capacity told -/
theorem clone_cap (a : Option Addr) (len cap : Nat) (zs : List Int) (w : World) (h : Row .i32 w a len cap zs) (hl : len ≤ 1024) :
    Calls Try.prog 13 #[.slice a len cap] w fun e w' => ∃ aa, e = .returned (.slice aa len len) ∧ ((aa = none ∧ len = 0) ∨ aa = some ⟨w.heap.size, 0, none⟩) ∧ Below w.heap.size w w' ∧ In w' w.heap.size len (fun i => zs.getD i 0) := by
  rcases h with ⟨rfl, rfl, rfl, rfl⟩ | ⟨x, rfl, h1, h2, h3, h4, h5⟩
  · refine (clone_nil w).mono ?_
    rintro e w' ⟨rfl, rfl⟩
    exact ⟨none, rfl, .inl ⟨rfl, rfl⟩, Below.refl _ _, by omega, by omega⟩
  · by_cases h0 : len = 0
    · subst h0
      refine (clone_zero x cap w).mono ?_
      rintro e w' ⟨rfl, rfl⟩
      exact ⟨_, rfl, .inr rfl, (Below.refl _ _).alloc (Nat.le_refl _) _, by omega, by omega⟩
    · obtain ⟨b, off, spot⟩ := x
      have hc0 := h4 0 (by omega)
      have hspot : spot = none := by simpa [Addr.add] using World.cell?_spot hc0
      subst hspot
      have hb : b < w.heap.size := by have := cell_lt hc0; simpa [Addr.add] using this
      refine (clone_some b off len cap (fun i => zs.getD i 0) w (by omega) (by omega) hb (fun i hi => ?_)).mono ?_
      · rw [← addr_add]; exact h4 i (by omega)
      · rintro e w' ⟨rfl, rfl⟩
        refine ⟨_, rfl, .inr rfl, (Below.refl _ _).alloc (Nat.le_refl _) _, fun i hi => ?_, fun _ => by simp⟩
        rw [World.cell?_alloc_at (hn := rfl), cp_get _ _ _ _ _ hi, if_pos hi]

theorem some_of {α : Type} {aa : Option α} {x : α} {n : Nat} (h : (aa = none ∧ n = 0) ∨ aa = some x) (h0 : 0 < n) : aa = some x := by
  rcases h with h | h
  · exact absurd h.2 (by omega)
  · exact h


theorem hid_of {p : Prop} (h : p) : Hid p := h
theorem My.C_le (g : Nat → Bool) (i n : Nat) : My.C g i n ≤ n := by
  induction n with
  | zero => exact Nat.le_refl _
  | succ n ih => simp only [My.C]; split <;> omega

set_option maxHeartbeats 4000000 in
set_option maxRecDepth 100000 in
theorem law3_main (a0 : Option Addr) (len0 cap0 : Nat) (z0 : List Int) (a1 : Option Addr) (len1 cap1 : Nat) (z1 : List Int) (i0 i1 j0 j1 : Nat) (w : World) (w0 : Row .i32 w a0 len0 cap0 z0) (w1 : Row .i32 w a1 len1 cap1 z1)
    (hb0 : len0 ≤ 1024) (hb1 : len1 ≤ 1024) (hi : i0 ≤ i1) (hi1 : i1 ≤ len0) (hj : j0 ≤ j1) (hj1 : j1 ≤ len1) :
    Calls Try.prog 3 #[.slice a0 len0 cap0, .slice a1 len1 cap1, .int .i64 i0, .int .i64 i1, .int .i64 j0, .int .i64 j1] w fun e w' => e = .returned (.bool true) ∧ Below w.heap.size w w' := by
  have hl0 := w0.len
  have hl1 := w1.len
  have W0 : Hid (Row .i32 w a0 len0 cap0 z0) := w0
  have W1 : Hid (Row .i32 w a1 len1 cap1 z1) := w1
  clear w0 w1
  have HF : Hid ((0 : Int) ≤ i0 ∧ (i0 : Int) ≤ i1 ∧ (i1 : Int) ≤ len0 ∧ (0 : Int) ≤ j0 ∧ (j0 : Int) ≤ j1 ∧ (j1 : Int) ≤ len1) := by show _ ∧ _; omega
  obtain ⟨ZA, hZA, mkA⟩ := make_marks len0 hb0
  obtain ⟨ZB, hZB, mkB⟩ := make_marks len1 hb1
  have HZA : Hid (ZA = cp (fun _ => .bool false) (.bool false) len0 0) := hZA
  have HZB : Hid (ZB = cp (fun _ => .bool false) (.bool false) len1 0) := hZB
  clear hZA hZB
  go_enter Try.func3, Try.ntmps3
  go_wp2_with fail
  refine (bytes11 _ _ _ _ _ _ _ _ _ _ _ hl0 hl1).mono ?_
  rintro e w' ⟨⟨b, rfl, hb⟩, rfl⟩
  obtain rfl := hb hb0 hb1
  clear hb
  go_wp2_with fail
  refine (fit12 _ _ _ _ _ _ _ _ _ _ _ HF.out).mono ?_
  rintro e v0 ⟨rfl, rfl⟩
  go_wp2_with fail
  refine (clone_cap a0 len0 cap0 z0 _ W0.out hb0).mono ?_
  rintro e v1 ⟨aa, rfl, q1, q2, q3⟩
  have Q1 : Hid ((aa = none ∧ len0 = 0) ∨ aa = some ⟨v0.heap.size, 0, none⟩) := q1
  have Q2 : Hid (Below v0.heap.size v0 v1) := q2
  have Q3 : Hid (In v1 v0.heap.size len0 (fun i => z0.getD i 0)) := q3
  clear q1 q2 q3
  go_wp2_with fail
  refine (clone_cap a1 len1 cap1 z1 _ (W1.out.below Q2.out) hb1).mono ?_
  rintro e v2 ⟨ba, rfl, q1, q2, q3⟩
  have R1 : Hid ((ba = none ∧ len1 = 0) ∨ ba = some ⟨v1.heap.size, 0, none⟩) := q1
  have R3 : Hid (In v2 v1.heap.size len1 (fun i => z1.getD i 0)) := q3
  have R4 : Hid (In v2 v0.heap.size len0 (fun i => z0.getD i 0)) := Q3.out.of_below q2
  have R5 : Hid (Below v0.heap.size v0 v2) := Q2.out.trans (q2.mono Q2.out.size)
  clear q1 q2 q3 Q2 Q3
  go_wp2_with fail
  have mm := marks_made v2 len0 len1 ZA ZB HZA.out HZB.out
  have S1 : Hid (Dv ((v2.alloc (.cells ZA 4)).alloc (.cells ZB 4)) v2.heap.size len0 (fun _ => false)) := mm.1
  have S2 : Hid (Dv ((v2.alloc (.cells ZA 4)).alloc (.cells ZB 4)) (v2.heap.size + 1) len1 (fun _ => false)) := mm.2.1
  have S3 : Hid (Below v2.heap.size v2 ((v2.alloc (.cells ZA 4)).alloc (.cells ZB 4))) := mm.2.2.1
  have S4 : Hid (((v2.alloc (.cells ZA 4)).alloc (.cells ZB 4)).heap.size = v2.heap.size + 2) := mm.2.2.2
  clear mm
  refine (zc_law aa ba v0.heap.size v1.heap.size v2.heap.size (v2.heap.size + 1) len0 len0 len1 len1 (fun i => z0.getD i 0) (fun i => z1.getD i 0) (fun _ => false) (fun _ => false) i0 i1 j0 j1 9223372036854775807 _ hi hj hi1 hj1 hb0 hb1 (by omega) (by omega) (some_of Q1.out) (some_of R1.out)
    (fun h => by have := R4.out.lt h; omega) (fun h => by have := R3.out.lt h; omega) (fun h => by have := R4.out.lt h; omega) (fun h => by have := R3.out.lt h; omega) (by omega) (R4.out.of_below S3.out) (R3.out.of_below S3.out) S1.out S2.out).mono ?_
  rintro e v3 ⟨rfl, d1, d2, fo⟩
  have U1 : Hid (In v3 v0.heap.size len0 (fun i => z0.getD i 0)) := (R4.out.of_below S3.out).of_fo fo (fun h => by have := R4.out.lt h; omega) (fun h => by have := R4.out.lt h; omega)
  have U2 : Hid (In v3 v1.heap.size len1 (fun i => z1.getD i 0)) := (R3.out.of_below S3.out).of_fo fo (fun h => by have := R3.out.lt h; omega) (fun h => by have := R3.out.lt h; omega)
  have U3 : Hid (Below v0.heap.size v0 v3) := by
    have h1 := R5.out
    have h2 := S3.out
    have h3 := S4.out
    refine ⟨fo.os.trans (h2.os.trans h1.os), fo.tape.trans (h2.tape.trans h1.tape), fo.output.trans (h2.output.trans h1.output), Nat.le_trans h1.size (Nat.le_trans h2.size fo.size), fun k hk => ?_⟩
    have := h1.size
    rw [fo.block k (by omega) (by omega) (by omega), h2.block k (by omega), h1.block k hk]
  obtain ⟨dl', il', s', hcmp, cst, od, oi, hK, hC⟩ := My.cmp_script (fun i => z0.getD i 0) (fun i => z1.getD i 0) (i1 - i0 + (j1 - j0) + 1) i0 i1 j0 j1 (fun _ => false) (fun _ => false) 9223372036854775807 hi hj (by omega) (by omega) (by omega) (by omega) (fun _ _ _ => rfl) (fun _ _ _ => rfl)
  rw [hcmp] at d1 d2 ⊢
  simp only [] at d1 d2 ⊢
  have SC := script15 { aa := aa, ba := ba, ab := v0.heap.size, bb := v1.heap.size, db := v2.heap.size, ib := v2.heap.size + 1, la := len0, lb := len1, i0 := i0, i1 := i1, j0 := j0, j1 := j1, A := fun i => z0.getD i 0, B := fun i => z1.getD i 0, dl := dl', il := il' } v3
    ⟨hb0, hb1, hi, hi1, hj, hj1, Q1.out, R1.out, U1.out, U2.out, fun i h => d1.cell i h, fun i h => d2.cell i h⟩
    (fun i h hm => by
      by_cases x : i0 ≤ i ∧ i < i1
      · exact x
      · have := od i (by omega)
        simp only [] at hm
        rw [this] at hm; exact absurd hm (by simp))
    (fun j h hm => by
      by_cases x : j0 ≤ j ∧ j < j1
      · exact x
      · have := oi j (by omega)
        simp only [] at hm
        rw [this] at hm; exact absurd hm (by simp))
    hK hC (by have h1 := My.C_le dl' i0 (i1 - i0); have h2 := My.C_le il' j0 (j1 - j0); simp only []; omega)
  have SCH := hid_of SC
  clear SC d1 d2 fo hcmp cst od oi hK hC R3 R4 R5 S1 S2 S3 S4
  go_wp2_with fail
  refine SCH.out.mono ?_
  rintro e v4 ⟨rfl, hb4⟩
  have B4 := hid_of (U3.out.trans (hb4.mono U3.out.size))
  clear hb4
  go_wp2_with fail
  go_ret
  exact ⟨rfl, B4.out⟩

set_option maxHeartbeats 4000000 in
set_option maxRecDepth 100000 in
theorem law3 (a0 : Option Addr) (len0 cap0 : Nat) (z0 : List Int) (a1 : Option Addr) (len1 cap1 : Nat) (z1 : List Int) (a2 a3 a4 a5 : Int) (w : World) (w0 : Row .i32 w a0 len0 cap0 z0) (w1 : Row .i32 w a1 len1 cap1 z1) :
    Calls Try.prog 3 #[.slice a0 len0 cap0, .slice a1 len1 cap1, .int .i64 a2, .int .i64 a3, .int .i64 a4, .int .i64 a5] w fun e w' => e = .returned (.bool true) ∧ Below w.heap.size w w' := by
  have hl0 := w0.len
  have hl1 := w1.len
  by_cases hb0 : len0 ≤ 1024
  case neg =>
    have hb0' : 1024 < len0 := by omega
    clear hb0 w0 w1
    go_enter Try.func3, Try.ntmps3
    go_wp2_with fail
    refine (bytes11 _ _ _ _ _ _ _ _ _ _ _ hl0 hl1).mono ?_
    rintro e w' ⟨⟨b, rfl, hb⟩, rfl⟩
    clear hb
    cases b
    all_goals
      go_wp2_with fail
      go_ret
      exact ⟨rfl, Below.refl _ _⟩
  by_cases hb1 : len1 ≤ 1024
  case neg =>
    have hb1' : 1024 < len1 := by omega
    clear hb1 w0 w1
    go_enter Try.func3, Try.ntmps3
    go_wp2_with fail
    refine (bytes11 _ _ _ _ _ _ _ _ _ _ _ hl0 hl1).mono ?_
    rintro e w' ⟨⟨b, rfl, hb⟩, rfl⟩
    clear hb
    cases b
    all_goals
      go_wp2_with fail
      go_ret
      exact ⟨rfl, Below.refl _ _⟩
  by_cases hfit : 0 ≤ a2 ∧ a2 ≤ a3 ∧ a3 ≤ len0 ∧ 0 ≤ a4 ∧ a4 ≤ a5 ∧ a5 ≤ len1
  case neg =>
    have HF : Hid (¬ (0 ≤ a2 ∧ a2 ≤ a3 ∧ a3 ≤ len0 ∧ 0 ≤ a4 ∧ a4 ≤ a5 ∧ a5 ≤ len1)) := hfit
    clear hfit w0 w1
    go_enter Try.func3, Try.ntmps3
    go_wp2_with fail
    refine (bytes11 _ _ _ _ _ _ _ _ _ _ _ hl0 hl1).mono ?_
    rintro e w' ⟨⟨b, rfl, hb⟩, rfl⟩
    obtain rfl := hb hb0 hb1
    clear hb
    go_wp2_with fail
    refine (fit12_no _ _ _ _ _ _ _ _ _ _ _ HF.out).mono ?_
    rintro e w' ⟨rfl, rfl⟩
    go_wp2_with fail
    go_ret
    exact ⟨rfl, Below.refl _ _⟩
  obtain ⟨p1, p2, p3, p4, p5, p6⟩ := hfit
  obtain ⟨i0, rfl⟩ := Int.eq_ofNat_of_zero_le p1
  obtain ⟨i1, rfl⟩ := Int.eq_ofNat_of_zero_le (show 0 ≤ a3 by omega)
  obtain ⟨j0, rfl⟩ := Int.eq_ofNat_of_zero_le p4
  obtain ⟨j1, rfl⟩ := Int.eq_ofNat_of_zero_le (show 0 ≤ a5 by omega)
  exact law3_main a0 len0 cap0 z0 a1 len1 cap1 z1 i0 i1 j0 j1 w w0 w1 hb0 hb1 (by omega) (by omega) (by omega) (by omega)
end Go.Proofs.Qxb6601687a
