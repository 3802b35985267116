/-
  THE WALK OF FnMiddleSnakeStepBudgetOnlyStopsIt (function 7).
-/
import Derived.Test.Qxb6601687aZzms
import Derived.Test.Qxb6601687aGuards
import Derived.Test.Qxb6601687aMyersB
namespace Go.Proofs.Qxb6601687a
open Go.RowKit
set_option linter.unusedVariables false
set_option linter.unusedSimpArgs false

/-- ZZMiddleSnake, an empty slice's block left out -/
theorem mz_law (aa ba : Option Addr) (ab bb la ca lb cb : Nat) (x0 y0 s : Int) (n m : Nat) (A B : Nat → Int) (w : World) (hx0 : 0 ≤ x0) (hy0 : 0 ≤ y0) (hx1 : x0 + n ≤ la) (hy1 : y0 + m ≤ lb) (hla : la ≤ 1024) (hlb : lb ≤ 1024)
    (hs0 : -2147483648 ≤ s) (hs1 : s ≤ 9223372036854775807)
    (haa : 0 < la → aa = some ⟨ab, 0, none⟩) (hba : 0 < lb → ba = some ⟨bb, 0, none⟩)
    (hab : 0 < la → ab < w.heap.size) (hbb : 0 < lb → bb < w.heap.size)
    (cA : ∀ i, i < la → w.cell? ⟨ab, i, none⟩ = some (.int .i32 (A i))) (cB : ∀ i, i < lb → w.cell? ⟨bb, i, none⟩ = some (.int .i32 (B i))) :
    Calls Try.prog 21 #[.slice aa la ca, .slice ba lb cb, .int .i64 s, .int .i64 x0, .int .i64 (x0 + n), .int .i64 y0, .int .i64 (y0 + m)] w fun e w' =>
      e = .returned (out6 (My.ms (fun i => A (x0.toNat + i)) (fun i => B (y0.toNat + i)) n m s)) ∧ Below w.heap.size w w' := by
  by_cases h1 : la = 0
  · by_cases h2 : lb = 0
    · exact mz_any aa ba (w.heap.size + 3) (w.heap.size + 3) la ca lb cb x0 y0 s n m A B w hx0 hy0 hx1 hy1 hla hlb hs0 hs1 (by omega) (by omega) (.inr ⟨h1, by omega⟩) (.inr ⟨h2, by omega⟩) (by omega) (by omega)
    · exact mz_any aa ba (w.heap.size + 3) bb la ca lb cb x0 y0 s n m A B w hx0 hy0 hx1 hy1 hla hlb hs0 hs1 (by omega) hba (.inr ⟨h1, by omega⟩) (.inl (hbb (by omega))) (by omega) cB
  · by_cases h2 : lb = 0
    · exact mz_any aa ba ab (w.heap.size + 3) la ca lb cb x0 y0 s n m A B w hx0 hy0 hx1 hy1 hla hlb hs0 hs1 haa (by omega) (.inl (hab (by omega))) (.inr ⟨h2, by omega⟩) cA (by omega)
    · exact mz_any aa ba ab bb la ca lb cb x0 y0 s n m A B w hx0 hy0 hx1 hy1 hla hlb hs0 hs1 haa hba (.inl (hab (by omega))) (.inl (hbb (by omega))) cA cB

theorem Row.below {k : IntKind} {w w' : World} {a : Option Addr} {len cap : Nat} {zs : List Int} (h : Row k w a len cap zs) (hb : Below w.heap.size w w') : Row k w' a len cap zs := by
  rcases h with h | ⟨x, h1, h2, h3, h4, h5, h6⟩
  · exact .inl h
  · refine .inr ⟨x, h1, h2, h3, h4, fun i hi => ?_, h6⟩
    rw [hb.cell (cell_lt (h5 i hi))]; exact h5 i hi

set_option maxHeartbeats 2000000 in
set_option maxRecDepth 100000 in
theorem law7 (a0 : Option Addr) (len0 cap0 : Nat) (z0 : List Int) (a1 : Option Addr) (len1 cap1 : Nat) (z1 : List Int) (a2 a3 a4 a5 a6 a7 : Int) (w : World) (w0 : Row .i32 w a0 len0 cap0 z0) (w1 : Row .i32 w a1 len1 cap1 z1) :
    Calls Try.prog 7 #[.slice a0 len0 cap0, .slice a1 len1 cap1, .int .i64 a2, .int .i64 a3, .int .i64 a4, .int .i64 a5, .int .i64 a6, .int .i64 a7] w fun e w' => e = .returned (.bool true) ∧ Below w.heap.size w w' := by
  have hl0 := w0.len
  have hl1 := w1.len
  by_cases hb0 : len0 ≤ 1024
  case neg =>
    have hb0' : 1024 < len0 := by omega
    clear hb0 w0 w1
    go_enter Try.func7, Try.ntmps7
    go_wp2_with fail
    refine (bytes23 _ _ _ _ _ _ _ _ _ _ _ _ _ hl0 hl1).mono ?_
    rintro e w' ⟨⟨b, rfl, hb⟩, rfl⟩
    clear hb
    cases b
    all_goals
      go_wp2_with fail
      go_ret
      exact ⟨rfl, Below.refl _ _⟩
  by_cases hb1 : len1 ≤ 1024
  case neg =>
    have hb1' : 1024 < len1 := by omega
    clear hb1 w0 w1
    go_enter Try.func7, Try.ntmps7
    go_wp2_with fail
    refine (bytes23 _ _ _ _ _ _ _ _ _ _ _ _ _ hl0 hl1).mono ?_
    rintro e w' ⟨⟨b, rfl, hb⟩, rfl⟩
    clear hb
    cases b
    all_goals
      go_wp2_with fail
      go_ret
      exact ⟨rfl, Below.refl _ _⟩
  by_cases hfit : 0 ≤ a2 ∧ a2 ≤ a3 ∧ a3 ≤ len0 ∧ 0 ≤ a4 ∧ a4 ≤ a5 ∧ a5 ≤ len1
  case neg =>
    have HF : Hid (¬ (0 ≤ a2 ∧ a2 ≤ a3 ∧ a3 ≤ len0 ∧ 0 ≤ a4 ∧ a4 ≤ a5 ∧ a5 ≤ len1)) := hfit
    clear hfit w0 w1
    go_enter Try.func7, Try.ntmps7
    go_wp2_with fail
    refine (bytes23 _ _ _ _ _ _ _ _ _ _ _ _ _ hl0 hl1).mono ?_
    rintro e w' ⟨⟨b, rfl, hb⟩, rfl⟩
    obtain rfl := hb hb0 hb1
    clear hb
    go_wp2_with fail
    refine (fit12_no _ _ _ _ _ _ _ _ _ _ _ HF.out).mono ?_
    rintro e w' ⟨rfl, rfl⟩
    go_wp2_with fail
    go_ret
    exact ⟨rfl, Below.refl _ _⟩
  by_cases hst : -536870912 ≤ a6 ∧ a6 ≤ 536870912
  case neg =>
    have hst' : a6 < -536870912 ∨ (-536870912 ≤ a6 ∧ 536870912 < a6) := by omega
    have HF : Hid (0 ≤ a2 ∧ a2 ≤ a3 ∧ a3 ≤ len0 ∧ 0 ≤ a4 ∧ a4 ≤ a5 ∧ a5 ≤ len1) := hfit
    clear hfit w0 w1 hst
    rcases hst' with hst | ⟨hst, hst2⟩
    all_goals
      go_enter Try.func7, Try.ntmps7
      go_wp2_with fail
      refine (bytes23 _ _ _ _ _ _ _ _ _ _ _ _ _ hl0 hl1).mono ?_
      rintro e w' ⟨⟨b, rfl, hb⟩, rfl⟩
      obtain rfl := hb hb0 hb1
      clear hb
      go_wp2_with fail
      refine (fit12 _ _ _ _ _ _ _ _ _ _ _ HF.out).mono ?_
      rintro e w' ⟨rfl, rfl⟩
      go_wp2_with fail
      go_ret
      exact ⟨rfl, Below.refl _ _⟩
  by_cases hex : 0 ≤ a7 ∧ a7 ≤ 536870912
  case neg =>
    have hex' : a7 < 0 ∨ (0 ≤ a7 ∧ 536870912 < a7) := by omega
    have HF : Hid (0 ≤ a2 ∧ a2 ≤ a3 ∧ a3 ≤ len0 ∧ 0 ≤ a4 ∧ a4 ≤ a5 ∧ a5 ≤ len1) := hfit
    obtain ⟨hs1, hs2⟩ := hst
    clear hfit w0 w1 hex
    rcases hex' with hex | ⟨hex, hex2⟩
    all_goals
      go_enter Try.func7, Try.ntmps7
      go_wp2_with fail
      refine (bytes23 _ _ _ _ _ _ _ _ _ _ _ _ _ hl0 hl1).mono ?_
      rintro e w' ⟨⟨b, rfl, hb⟩, rfl⟩
      obtain rfl := hb hb0 hb1
      clear hb
      go_wp2_with fail
      refine (fit12 _ _ _ _ _ _ _ _ _ _ _ HF.out).mono ?_
      rintro e w' ⟨rfl, rfl⟩
      go_wp2_with fail
      go_ret
      exact ⟨rfl, Below.refl _ _⟩
  obtain ⟨n, hn⟩ : ∃ n : Nat, a3 = a2 + n := ⟨(a3 - a2).toNat, by omega⟩
  obtain ⟨m, hm⟩ : ∃ m : Nat, a5 = a4 + m := ⟨(a5 - a4).toNat, by omega⟩
  subst hn hm
  have HF : Hid (0 ≤ a2 ∧ a2 ≤ a2 + n ∧ a2 + n ≤ len0 ∧ 0 ≤ a4 ∧ a4 ≤ a4 + m ∧ a4 + m ≤ len1) := hfit
  obtain ⟨p1, p2, p3, p4, p5, p6⟩ := hfit
  obtain ⟨hs1, hs2⟩ := hst
  obtain ⟨hx1, hx2⟩ := hex
  have W0 : Hid (Row .i32 w a0 len0 cap0 z0) := w0
  have W1 : Hid (Row .i32 w a1 len1 cap1 z1) := w1
  clear w0 w1
  go_enter Try.func7, Try.ntmps7
  go_wp2_with fail
  refine (bytes23 _ _ _ _ _ _ _ _ _ _ _ _ _ hl0 hl1).mono ?_
  rintro e w' ⟨⟨b, rfl, hb⟩, rfl⟩
  obtain rfl := hb hb0 hb1
  clear hb
  go_wp2_with fail
  refine (fit12 _ _ _ _ _ _ _ _ _ _ _ HF.out).mono ?_
  rintro e v0 ⟨rfl, rfl⟩
  go_wp2_with fail
  refine (clone_any a0 len0 cap0 z0 _ W0.out hb0).mono ?_
  rintro e v1 ⟨aa, ca, rfl, q1, q2, q3, q4⟩
  have Q1 : Hid (0 < len0 → aa = some ⟨v0.heap.size, 0, none⟩) := q1
  have Q2 : Hid (Below v0.heap.size v0 v1) := q2
  have Q3 : Hid (0 < len0 → v0.heap.size < v1.heap.size) := q3
  have Q4 : Hid (∀ i, i < len0 → v1.cell? ⟨v0.heap.size, i, none⟩ = some (.int .i32 (z0.getD i 0))) := q4
  clear q1 q2 q3 q4
  go_wp2_with fail
  refine (clone_any a1 len1 cap1 z1 _ (W1.out.below Q2.out) hb1).mono ?_
  rintro e v2 ⟨ba, cb, rfl, q1, q2, q3, q4⟩
  have R1 : Hid (0 < len1 → ba = some ⟨v1.heap.size, 0, none⟩) := q1
  have R2 : Hid (Below v1.heap.size v1 v2) := q2
  have R3 : Hid (0 < len1 → v1.heap.size < v2.heap.size) := q3
  have R4 : Hid (∀ i, i < len1 → v2.cell? ⟨v1.heap.size, i, none⟩ = some (.int .i32 (z1.getD i 0))) := q4
  have R5 : Hid (∀ i, i < len0 → v2.cell? ⟨v0.heap.size, i, none⟩ = some (.int .i32 (z0.getD i 0))) := fun i hi => by
    rw [q2.cell (p := ⟨v0.heap.size, i, none⟩) (Q3.out (by omega))]; exact Q4.out i hi
  have R6 : Hid (0 < len0 → v0.heap.size < v2.heap.size) := fun h => Nat.lt_of_lt_of_le (Q3.out h) q2.size
  clear q1 q2 q3 q4
  go_wp2_with fail
  refine (mz_law aa ba v0.heap.size v1.heap.size len0 ca len1 cb a2 a4 a6 n m (fun i => z0.getD i 0) (fun i => z1.getD i 0) v2 p1 p4 p3 p6 hb0 hb1 (by omega) (by omega) Q1.out R1.out R6.out R3.out R5.out R4.out).mono ?_
  rintro e v3 ⟨rfl, t1⟩
  have law1 := My.ms_law (fun i => z0.getD (a2.toNat + i) 0) (fun i => z1.getD (a4.toNat + i) 0) n m a6
  have law2 := My.ms_more (fun i => z0.getD (a2.toNat + i) 0) (fun i => z1.getD (a4.toNat + i) 0) n m a6 a7 hx1
  have law3 := My.ms_fell (fun i => z0.getD (a2.toNat + i) 0) (fun i => z1.getD (a4.toNat + i) 0) n m a6
  have T1 : Hid (Below v2.heap.size v2 v3) := t1
  have R4' : Hid (∀ i, i < len1 → v3.cell? ⟨v1.heap.size, i, none⟩ = some (.int .i32 (z1.getD i 0))) := fun i hi => by
    rw [t1.cell (p := ⟨v1.heap.size, i, none⟩) (R3.out (by omega))]; exact R4.out i hi
  have R5' : Hid (∀ i, i < len0 → v3.cell? ⟨v0.heap.size, i, none⟩ = some (.int .i32 (z0.getD i 0))) := fun i hi => by
    rw [t1.cell (p := ⟨v0.heap.size, i, none⟩) (R6.out (by omega))]; exact R5.out i hi
  have R6' : Hid (0 < len0 → v0.heap.size < v3.heap.size) := fun h => Nat.lt_of_lt_of_le (R6.out h) t1.size
  have R3' : Hid (0 < len1 → v1.heap.size < v3.heap.size) := fun h => Nat.lt_of_lt_of_le (R3.out h) t1.size
  have BL : Hid (∀ v4, Below v3.heap.size v3 v4 → Below v0.heap.size v0 v4) := fun v4 hb4 =>
    ((Q2.out.trans (R2.out.mono Q2.out.size)).trans (t1.mono (Nat.le_trans Q2.out.size R2.out.size))).trans (hb4.mono (Nat.le_trans (Nat.le_trans Q2.out.size R2.out.size) t1.size))
  clear t1 R4 R5 R6 R3 T1 Q2 R2 Q3 Q4
  generalize My.ms (fun i => z0.getD (a2.toNat + i) 0) (fun i => z1.getD (a4.toNat + i) 0) n m a6 = r at *
  obtain ⟨o, s1⟩ := r
  cases o with
  | none =>
    have hneg : s1 < 0 := law1
    clear law1 law2 law3
    simp only [out6]
    go_wp2_with fail
    refine (mz_law aa ba v0.heap.size v1.heap.size len0 ca len1 cb a2 a4 (a6 + a7) n m (fun i => z0.getD i 0) (fun i => z1.getD i 0) v3 p1 p4 p3 p6 hb0 hb1 (by omega) (by omega) Q1.out R1.out R6'.out R3'.out R5'.out R4'.out).mono ?_
    rintro e v4 ⟨rfl, t2⟩
    have T2 : Hid (Below v0.heap.size v0 v4) := BL.out v4 t2
    clear t2
    generalize My.ms (fun i => z0.getD (a2.toNat + i) 0) (fun i => z1.getD (a4.toNat + i) 0) n m (a6 + a7) = r2
    obtain ⟨o2, s2⟩ := r2
    cases o2
    all_goals
      simp only [out6]
      go_wp2_with fail
      go_ret
      exact ⟨rfl, T2.out⟩
  | some q =>
    simp only [] at law2
    have hlo : -2147483648 ≤ s1 ∧ s1 ≤ 536870912 := by unfold My.Fell at law3; simp only [] at law3; omega
    obtain ⟨hlo1, hlo2⟩ := hlo
    clear law1 law3
    have LAW : Hid (My.ms (fun i => z0.getD (a2.toNat + i) 0) (fun i => z1.getD (a4.toNat + i) 0) n m (a6 + a7) = (some q, s1 + a7)) := law2
    clear law2
    simp only [out6]
    go_wp2_with fail
    refine (mz_law aa ba v0.heap.size v1.heap.size len0 ca len1 cb a2 a4 (a6 + a7) n m (fun i => z0.getD i 0) (fun i => z1.getD i 0) v3 p1 p4 p3 p6 hb0 hb1 (by omega) (by omega) Q1.out R1.out R6'.out R3'.out R5'.out R4'.out).mono ?_
    rintro e v4 ⟨rfl, t2⟩
    have T2 : Hid (Below v0.heap.size v0 v4) := BL.out v4 t2
    clear t2
    rw [LAW.out]
    simp only [out6]
    go_wp2_with fail
    go_ret
    exact ⟨rfl, T2.out⟩
#print axioms law7
end Go.Proofs.Qxb6601687a
