/-
  THE WALKS OF FnNullableRoundTripFreshCell (function 6) and FnOrNullAgreesWithNullable (function 7).
-/
import Derived.Test.Qxb6001762aRows
import Derived.WalkKit
import Derived.ProofKit
import Derived.OpenShut
import Derived.ShutString
namespace Go.Proofs.Qxb6001762a
open Go.ChangeShapes Go.WideShapes Go.ChangeAt Go.RowKit
set_option linter.unusedVariables false
set_option linter.unusedSimpArgs false

set_option maxHeartbeats 1000000 in
theorem bytes14 (a0 : ByteArray) (w0 : a0.size ≤ maxLen) (w : World) : Calls Try.prog 14 #[.string a0] w fun e w' => (∃ b, e = .returned (.bool b)) ∧ w' = w := by
  go_enter Try.func14, Try.ntmps14
  go_wp2
  all_goals go_ret
  all_goals exact ⟨⟨_, rfl⟩, rfl⟩
set_option maxHeartbeats 1000000 in
theorem bytes16 (a0 : ByteArray) (w0 : a0.size ≤ maxLen) (w : World) : Calls Try.prog 16 #[.string a0] w fun e w' => (∃ b, e = .returned (.bool b)) ∧ w' = w := by
  go_enter Try.func16, Try.ntmps16
  go_wp2
  all_goals go_ret
  all_goals exact ⟨⟨_, rfl⟩, rfl⟩
set_option maxHeartbeats 1000000 in
theorem null15_nil (a0 : ByteArray) (h : a0.toList.isEmpty = true) (w : World) : Calls Try.prog 15 #[.string a0] w fun e w' => e = .returned (.pointer none) ∧ w' = w.alloc (.cells #[.string a0] 9) := by
  go_enter Try.func15, Try.ntmps15
  go_wp2
  go_ret
  exact ⟨rfl, rfl⟩
set_option maxHeartbeats 1000000 in
theorem null15_some (a0 : ByteArray) (h : a0.toList.isEmpty = false) (w : World) : Calls Try.prog 15 #[.string a0] w fun e w' => e = .returned (.pointer (some ⟨w.heap.size, 0, none⟩)) ∧ w' = w.alloc (.cells #[.string a0] 9) := by
  go_enter Try.func15, Try.ntmps15
  go_wp2
  go_ret
  exact ⟨rfl, rfl⟩
set_option maxHeartbeats 1000000 in
theorem or17_nil (a0 : ByteArray) (h : a0.toList.isEmpty = true) (w : World) : Calls Try.prog 17 #[.string a0] w fun e w' => e = .returned (.string ⟨#[78, 85, 76, 76]⟩) ∧ w' = w := by
  go_enter Try.func17, Try.ntmps17
  go_wp2
  go_ret
  exact ⟨rfl, rfl⟩
set_option maxHeartbeats 1000000 in
theorem or17_some (a0 : ByteArray) (h : a0.toList.isEmpty = false) (w : World) : Calls Try.prog 17 #[.string a0] w fun e w' => e = .returned (.string a0) ∧ w' = w := by
  go_enter Try.func17, Try.ntmps17
  go_wp2
  go_ret
  exact ⟨rfl, rfl⟩

set_option maxHeartbeats 4000000 in
theorem law6 (a0 : ByteArray) (w0 : a0.size ≤ maxLen) (w : World) :
    Calls Try.prog 6 #[.string a0] w fun e w' => e = .returned (.bool true) ∧ Grown w w' := by
  have w1 : a0.size ≤ 9223372036854775807 := w0
  cases h : a0.toList.isEmpty
  · go_enter Try.func6, Try.ntmps6
    go_wp2_with fail
    refine (bytes14 a0 w0 _).mono ?_
    rintro e w' ⟨⟨b, rfl⟩, rfl⟩
    cases b
    · go_wp2_with fail
      go_ret
      exact ⟨rfl, Grown.refl _⟩
    · by_cases hs : a0.size ≤ 1048576
      · have hs2 : (a0.size : Int) ≤ 1048576 := by omega
        go_wp2_with fail
        refine (null15_some a0 h _).mono ?_
        rintro e w' ⟨rfl, rfl⟩
        go_wp2_with fail
        refine (null15_some a0 h _).mono ?_
        rintro e w' ⟨rfl, rfl⟩
        go_wp2_with fail
        go_ret
        exact ⟨rfl, by repeat (first | exact Grown.refl _ | apply Grown.drew | apply Grown.alloc)⟩
      · have hs2 : 1048576 < (a0.size : Int) := by omega
        go_wp2_with fail
        go_ret
        exact ⟨rfl, Grown.refl _⟩
  · go_enter Try.func6, Try.ntmps6
    go_wp2_with fail
    refine (bytes14 a0 w0 _).mono ?_
    rintro e w' ⟨⟨b, rfl⟩, rfl⟩
    cases b
    · go_wp2_with fail
      go_ret
      exact ⟨rfl, Grown.refl _⟩
    · by_cases hs : a0.size ≤ 1048576
      · have hs2 : (a0.size : Int) ≤ 1048576 := by omega
        go_wp2_with fail
        refine (null15_nil a0 h _).mono ?_
        rintro e w' ⟨rfl, rfl⟩
        go_wp2_with fail
        refine (null15_nil a0 h _).mono ?_
        rintro e w' ⟨rfl, rfl⟩
        go_wp2_with fail
        go_ret
        exact ⟨rfl, by repeat (first | exact Grown.refl _ | apply Grown.drew | apply Grown.alloc)⟩
      · have hs2 : 1048576 < (a0.size : Int) := by omega
        go_wp2_with fail
        go_ret
        exact ⟨rfl, Grown.refl _⟩
set_option maxHeartbeats 4000000 in
theorem law7 (a0 : ByteArray) (w0 : a0.size ≤ maxLen) (w : World) :
    Calls Try.prog 7 #[.string a0] w fun e w' => e = .returned (.bool true) ∧ Grown w w' := by
  have w1 : a0.size ≤ 9223372036854775807 := w0
  cases h : a0.toList.isEmpty
  · go_enter Try.func7, Try.ntmps7
    go_wp2_with fail
    refine (bytes16 a0 w0 _).mono ?_
    rintro e w' ⟨⟨b, rfl⟩, rfl⟩
    cases b
    · go_wp2_with fail
      go_ret
      exact ⟨rfl, Grown.refl _⟩
    · by_cases hs : a0.size ≤ 1048576
      · have hs2 : (a0.size : Int) ≤ 1048576 := by omega
        go_wp2_with fail
        refine (or17_some a0 h _).mono ?_
        rintro e w' ⟨rfl, rfl⟩
        go_wp2_with fail
        refine (null15_some a0 h _).mono ?_
        rintro e w' ⟨rfl, rfl⟩
        go_wp2_with fail
        refine (or17_some a0 h _).mono ?_
        rintro e w' ⟨rfl, rfl⟩
        go_wp2_with fail
        go_ret
        exact ⟨rfl, by repeat (first | exact Grown.refl _ | apply Grown.drew | apply Grown.alloc)⟩
      · have hs2 : 1048576 < (a0.size : Int) := by omega
        go_wp2_with fail
        go_ret
        exact ⟨rfl, Grown.refl _⟩
  · have hN : (⟨#[78, 85, 76, 76]⟩ : ByteArray).toList.isEmpty = false := by first | kernel_rfl | (simp [ByteArray.toList, ByteArray.toList.loop, ByteArray.size]) | (unfold ByteArray.toList; rw [ByteArray.toList.loop]; simp [ByteArray.size])
    go_enter Try.func7, Try.ntmps7
    go_wp2_with fail
    refine (bytes16 a0 w0 _).mono ?_
    rintro e w' ⟨⟨b, rfl⟩, rfl⟩
    cases b
    · go_wp2_with fail
      go_ret
      exact ⟨rfl, Grown.refl _⟩
    · by_cases hs : a0.size ≤ 1048576
      · have hs2 : (a0.size : Int) ≤ 1048576 := by omega
        go_wp2_with fail
        refine (or17_nil a0 h _).mono ?_
        rintro e w' ⟨rfl, rfl⟩
        go_wp2_with fail
        refine (null15_nil a0 h _).mono ?_
        rintro e w' ⟨rfl, rfl⟩
        go_wp2_with fail
        refine (or17_some _ hN _).mono ?_
        rintro e w' ⟨rfl, rfl⟩
        go_wp2_with fail
        go_ret
        exact ⟨rfl, by repeat (first | exact Grown.refl _ | apply Grown.drew | apply Grown.alloc)⟩
      · have hs2 : 1048576 < (a0.size : Int) := by omega
        go_wp2_with fail
        go_ret
        exact ⟨rfl, Grown.refl _⟩
end Go.Proofs.Qxb6001762a
