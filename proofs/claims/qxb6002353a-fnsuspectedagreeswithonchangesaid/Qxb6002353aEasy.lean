/-
  SEAT b6002353a: names.
-/
import Derived.Test.Qxb6002353aSmall
namespace Go.Proofs.Qxb6002353a
open Go.RowKit
set_option linter.unusedVariables false
set_option linter.unusedSimpArgs false

set_option maxHeartbeats 1000000 in
theorem c24 (i : Nat) (hi : i < 5) (w : World) : Calls Try.prog 24 #[.int .i64 i] w fun e w' => e = .returned (.string (nm i)) ∧ w' = w := by
  have : i = 0 ∨ i = 1 ∨ i = 2 ∨ i = 3 ∨ i = 4 := by omega
  rcases this with rfl | rfl | rfl | rfl | rfl
  all_goals
    go_enter Try.func24, Try.ntmps24
    go_wp2_with fail
    go_ret
    exact ⟨rfl, rfl⟩

theorem tl_self (a : ByteArray) : (a.toList == a.toList) = true := by simp
theorem nm_ne {i j : Nat} (hi : i < 5) (hj : j < 5) (h : i ≠ j) : ((nm i).toList == (nm j).toList) = false := by
  have h : ∀ a : Fin 5, ∀ b : Fin 5, a.val ≠ b.val → ((nm a.val).toList == (nm b.val).toList) = false := by decide +kernel
  exact h ⟨i, hi⟩ ⟨j, hj⟩ (by assumption)

set_option maxHeartbeats 1000000 in
theorem c20 (i k : Nat) (hi : i < k) (hk : k ≤ 5) (w : World) : Calls Try.prog 20 #[.string (nm i), .int .i64 k] w fun e w' => e = .returned (.int .i64 i) ∧ w' = w := by
  go_enter Try.func20, Try.ntmps20
  go_wp2_with fail
  go_loopg [5] i (fun m a wr => w = wr ∧ ∃ j : Nat, j + m = i ∧ a = .int .i64 j)
  case atStart => exact ⟨rfl, 0, by omega, rfl⟩
  case round =>
    obtain ⟨rfl, j, hj, rfl⟩ := hrel
    have hjk : (j : Int) < (k : Int) := by omega
    have C := hid (c24 j (by omega) w)
    by_cases h : j = i
    · subst h
      have t := tl_self (nm j)
      have J := hid hj
      clear hj
      go_wp2_with fail
      refine C.out.mono ?_
      rintro e w' ⟨rfl, rfl⟩
      go_wp2_with fail
      go_ret
      exact ⟨rfl, rfl⟩
    · have t := nm_ne (i := j) (j := i) (by omega) (by omega) h
      have J := hid hj
      clear hj
      go_wp2_with fail
      refine C.out.mono ?_
      rintro e w' ⟨rfl, rfl⟩
      go_wp2_with fail
      go_roundg (gk - 1)
      case measure => have := J.out; omega
      case rel => exact ⟨rfl, j + 1, by have := J.out; omega, rfl⟩
end Go.Proofs.Qxb6002353a
