/-
  compact (function 36): the loops.
-/
import Derived.Test.Qxb6601687aCptA
namespace Go.Proofs.Qxb6601687a
open Go.RowKit
set_option linter.unusedVariables false
set_option linter.unusedSimpArgs false

theorem k8 : sub2 [true, true, true, true, true, true, true, false, false, true, false, true, true, true, true, false, false, false, false, true, false, false, false] (bodyOf Try.f36) = .seq (sub2 [true, true, true, true, true, true, true, false, false, true, false, true, true, true, true, false, false, false, false, true, false, false, false, false] (bodyOf Try.f36)) (sub2 [true, true, true, true, true, true, true, false, false, true, false, true, true, true, true, false, false, false, false, true, false, false, false, true] (bodyOf Try.f36)) := by kernel_rfl
theorem k8r : sub2 [true, true, true, true, true, true, true, false, false, true, false, true, true, true, true, false, false, false, false, true, false, false, false, true] (bodyOf Try.f36) = .block 9 (sub2 [true, true, true, true, true, true, true, false, false, true, false, true, true, true, true, false, false, false, false, true, false, false, false, true, false] (bodyOf Try.f36)) := by kernel_rfl
theorem k8rl : sub2 [true, true, true, true, true, true, true, false, false, true, false, true, true, true, true, false, false, false, false, true, false, false, false, true, false] (bodyOf Try.f36) = .seq (sub2 [true, true, true, true, true, true, true, false, false, true, false, true, true, true, true, false, false, false, false, true, false, false, false, true, false, false] (bodyOf Try.f36)) (sub2 [true, true, true, true, true, true, true, false, false, true, false, true, true, true, true, false, false, false, false, true, false, false, false, true, false, true] (bodyOf Try.f36)) := by kernel_rfl
theorem k8rlr : sub2 [true, true, true, true, true, true, true, false, false, true, false, true, true, true, true, false, false, false, false, true, false, false, false, true, false, true] (bodyOf Try.f36) = .seq (sub2 [true, true, true, true, true, true, true, false, false, true, false, true, true, true, true, false, false, false, false, true, false, false, false, true, false, true, false] (bodyOf Try.f36)) (sub2 [true, true, true, true, true, true, true, false, false, true, false, true, true, true, true, false, false, false, false, true, false, false, false, true, false, true, true] (bodyOf Try.f36)) := by kernel_rfl
theorem k8b : sub2 [true, true, true, true, true, true, true, false, false, true, false, true, true, true, true, false, false, false, false, true, false, false, false, true, false, true, true] (bodyOf Try.f36) = .block 10 (sub2 [true, true, true, true, true, true, true, false, false, true, false, true, true, true, true, false, false, false, false, true, false, false, false, true, false, true, true, false] (bodyOf Try.f36)) := by kernel_rfl
theorem k8o : sub2 [true, true, true, true, true, true, true, false, false, true, false, true, true, true, true, false, false, false, false, true, false, false, false, true, false, true, true, false] (bodyOf Try.f36) = .loop (sub2 [true, true, true, true, true, true, true, false, false, true, false, true, true, true, true, false, false, false, false, true, false, false, false, true, false, true, true, false, false] (bodyOf Try.f36)) := by kernel_rfl
theorem k12 : sub2 [true, true, true, true, true, true, true, false, false, true, false, true, true, true, true, false, false, false, false, true, true, true, true, false, false, false] (bodyOf Try.f36) = .seq (sub2 [true, true, true, true, true, true, true, false, false, true, false, true, true, true, true, false, false, false, false, true, true, true, true, false, false, false, false] (bodyOf Try.f36)) (sub2 [true, true, true, true, true, true, true, false, false, true, false, true, true, true, true, false, false, false, false, true, true, true, true, false, false, false, true] (bodyOf Try.f36)) := by kernel_rfl
theorem k12r : sub2 [true, true, true, true, true, true, true, false, false, true, false, true, true, true, true, false, false, false, false, true, true, true, true, false, false, false, true] (bodyOf Try.f36) = .block 13 (sub2 [true, true, true, true, true, true, true, false, false, true, false, true, true, true, true, false, false, false, false, true, true, true, true, false, false, false, true, false] (bodyOf Try.f36)) := by kernel_rfl
theorem k12rl : sub2 [true, true, true, true, true, true, true, false, false, true, false, true, true, true, true, false, false, false, false, true, true, true, true, false, false, false, true, false] (bodyOf Try.f36) = .seq (sub2 [true, true, true, true, true, true, true, false, false, true, false, true, true, true, true, false, false, false, false, true, true, true, true, false, false, false, true, false, false] (bodyOf Try.f36)) (sub2 [true, true, true, true, true, true, true, false, false, true, false, true, true, true, true, false, false, false, false, true, true, true, true, false, false, false, true, false, true] (bodyOf Try.f36)) := by kernel_rfl
theorem k12rlr : sub2 [true, true, true, true, true, true, true, false, false, true, false, true, true, true, true, false, false, false, false, true, true, true, true, false, false, false, true, false, true] (bodyOf Try.f36) = .seq (sub2 [true, true, true, true, true, true, true, false, false, true, false, true, true, true, true, false, false, false, false, true, true, true, true, false, false, false, true, false, true, false] (bodyOf Try.f36)) (sub2 [true, true, true, true, true, true, true, false, false, true, false, true, true, true, true, false, false, false, false, true, true, true, true, false, false, false, true, false, true, true] (bodyOf Try.f36)) := by kernel_rfl
theorem k12s : sub2 [true, true, true, true, true, true, true, false, false, true, false, true, true, true, true, false, false, false, false, true, true, true, true, false, false, false, true, false, true, true] (bodyOf Try.f36) = .seq (sub2 [true, true, true, true, true, true, true, false, false, true, false, true, true, true, true, false, false, false, false, true, true, true, true, false, false, false, true, false, true, true, false] (bodyOf Try.f36)) (sub2 [true, true, true, true, true, true, true, false, false, true, false, true, true, true, true, false, false, false, false, true, true, true, true, false, false, false, true, false, true, true, true] (bodyOf Try.f36)) := by kernel_rfl
theorem k12b : sub2 [true, true, true, true, true, true, true, false, false, true, false, true, true, true, true, false, false, false, false, true, true, true, true, false, false, false, true, false, true, true, false] (bodyOf Try.f36) = .block 14 (sub2 [true, true, true, true, true, true, true, false, false, true, false, true, true, true, true, false, false, false, false, true, true, true, true, false, false, false, true, false, true, true, false, false] (bodyOf Try.f36)) := by kernel_rfl
theorem k12o : sub2 [true, true, true, true, true, true, true, false, false, true, false, true, true, true, true, false, false, false, false, true, true, true, true, false, false, false, true, false, true, true, false, false] (bodyOf Try.f36) = .loop (sub2 [true, true, true, true, true, true, true, false, false, true, false, true, true, true, true, false, false, false, false, true, true, true, true, false, false, false, true, false, true, true, false, false, false] (bodyOf Try.f36)) := by kernel_rfl
theorem k6 : sub2 [true, true, true, true, true, true, true, false, false, true, false, true, true, true, true, false, false, false] (bodyOf Try.f36) = .block 7 (sub2 [true, true, true, true, true, true, true, false, false, true, false, true, true, true, true, false, false, false, false] (bodyOf Try.f36)) := by kernel_rfl
theorem k7 : sub2 [true, true, true, true, true, true, true, false, false, true, false, true, true, true, true, false, false, false, false] (bodyOf Try.f36) = .seq (sub2 [true, true, true, true, true, true, true, false, false, true, false, true, true, true, true, false, false, false, false, false] (bodyOf Try.f36)) (sub2 [true, true, true, true, true, true, true, false, false, true, false, true, true, true, true, false, false, false, false, true] (bodyOf Try.f36)) := by kernel_rfl
theorem k7r : sub2 [true, true, true, true, true, true, true, false, false, true, false, true, true, true, true, false, false, false, false, true] (bodyOf Try.f36) = .seq (sub2 [true, true, true, true, true, true, true, false, false, true, false, true, true, true, true, false, false, false, false, true, false] (bodyOf Try.f36)) (sub2 [true, true, true, true, true, true, true, false, false, true, false, true, true, true, true, false, false, false, false, true, true] (bodyOf Try.f36)) := by kernel_rfl
theorem k7b : sub2 [true, true, true, true, true, true, true, false, false, true, false, true, true, true, true, false, false, false, false, true, false] (bodyOf Try.f36) = .block 8 (sub2 [true, true, true, true, true, true, true, false, false, true, false, true, true, true, true, false, false, false, false, true, false, false] (bodyOf Try.f36)) := by kernel_rfl
theorem k7o : sub2 [true, true, true, true, true, true, true, false, false, true, false, true, true, true, true, false, false, false, false, true, false, false] (bodyOf Try.f36) = .loop (sub2 [true, true, true, true, true, true, true, false, false, true, false, true, true, true, true, false, false, false, false, true, false, false, false] (bodyOf Try.f36)) := by kernel_rfl
theorem k7rr : sub2 [true, true, true, true, true, true, true, false, false, true, false, true, true, true, true, false, false, false, false, true, true] (bodyOf Try.f36) = .seq (sub2 [true, true, true, true, true, true, true, false, false, true, false, true, true, true, true, false, false, false, false, true, true, false] (bodyOf Try.f36)) (sub2 [true, true, true, true, true, true, true, false, false, true, false, true, true, true, true, false, false, false, false, true, true, true] (bodyOf Try.f36)) := by kernel_rfl
theorem k7s : sub2 [true, true, true, true, true, true, true, false, false, true, false, true, true, true, true, false, false, false, false, true, true, true] (bodyOf Try.f36) = .seq (sub2 [true, true, true, true, true, true, true, false, false, true, false, true, true, true, true, false, false, false, false, true, true, true, false] (bodyOf Try.f36)) (sub2 [true, true, true, true, true, true, true, false, false, true, false, true, true, true, true, false, false, false, false, true, true, true, true] (bodyOf Try.f36)) := by kernel_rfl
theorem k7t : sub2 [true, true, true, true, true, true, true, false, false, true, false, true, true, true, true, false, false, false, false, true, true, true, true] (bodyOf Try.f36) = .seq (sub2 [true, true, true, true, true, true, true, false, false, true, false, true, true, true, true, false, false, false, false, true, true, true, true, false] (bodyOf Try.f36)) (sub2 [true, true, true, true, true, true, true, false, false, true, false, true, true, true, true, false, false, false, false, true, true, true, true, true] (bodyOf Try.f36)) := by kernel_rfl
theorem k7c : sub2 [true, true, true, true, true, true, true, false, false, true, false, true, true, true, true, false, false, false, false, true, true, true, true, false] (bodyOf Try.f36) = .block 12 (sub2 [true, true, true, true, true, true, true, false, false, true, false, true, true, true, true, false, false, false, false, true, true, true, true, false, false] (bodyOf Try.f36)) := by kernel_rfl
theorem k7d : sub2 [true, true, true, true, true, true, true, false, false, true, false, true, true, true, true, false, false, false, false, true, true, true, true, false, false] (bodyOf Try.f36) = .loop (sub2 [true, true, true, true, true, true, true, false, false, true, false, true, true, true, true, false, false, false, false, true, true, true, true, false, false, false] (bodyOf Try.f36)) := by kernel_rfl
theorem k2 : sub2 [true, true, true, true, true, true, true, false, false] (bodyOf Try.f36) = .seq (sub2 [true, true, true, true, true, true, true, false, false, false] (bodyOf Try.f36)) (sub2 [true, true, true, true, true, true, true, false, false, true] (bodyOf Try.f36)) := by kernel_rfl
theorem k2r : sub2 [true, true, true, true, true, true, true, false, false, true] (bodyOf Try.f36) = .block 3 (sub2 [true, true, true, true, true, true, true, false, false, true, false] (bodyOf Try.f36)) := by kernel_rfl
theorem k3 : sub2 [true, true, true, true, true, true, true, false, false, true, false] (bodyOf Try.f36) = .seq (sub2 [true, true, true, true, true, true, true, false, false, true, false, false] (bodyOf Try.f36)) (sub2 [true, true, true, true, true, true, true, false, false, true, false, true] (bodyOf Try.f36)) := by kernel_rfl
theorem k3r : sub2 [true, true, true, true, true, true, true, false, false, true, false, true] (bodyOf Try.f36) = .seq (sub2 [true, true, true, true, true, true, true, false, false, true, false, true, false] (bodyOf Try.f36)) (sub2 [true, true, true, true, true, true, true, false, false, true, false, true, true] (bodyOf Try.f36)) := by kernel_rfl
theorem k3s : sub2 [true, true, true, true, true, true, true, false, false, true, false, true, true] (bodyOf Try.f36) = .seq (sub2 [true, true, true, true, true, true, true, false, false, true, false, true, true, false] (bodyOf Try.f36)) (sub2 [true, true, true, true, true, true, true, false, false, true, false, true, true, true] (bodyOf Try.f36)) := by kernel_rfl
theorem k3b : sub2 [true, true, true, true, true, true, true, false, false, true, false, true, true, false] (bodyOf Try.f36) = .block 4 (sub2 [true, true, true, true, true, true, true, false, false, true, false, true, true, false, false] (bodyOf Try.f36)) := by kernel_rfl
theorem k3o : sub2 [true, true, true, true, true, true, true, false, false, true, false, true, true, false, false] (bodyOf Try.f36) = .loop (sub2 [true, true, true, true, true, true, true, false, false, true, false, true, true, false, false, false] (bodyOf Try.f36)) := by kernel_rfl
theorem k3t : sub2 [true, true, true, true, true, true, true, false, false, true, false, true, true, true] (bodyOf Try.f36) = .seq (sub2 [true, true, true, true, true, true, true, false, false, true, false, true, true, true, false] (bodyOf Try.f36)) (sub2 [true, true, true, true, true, true, true, false, false, true, false, true, true, true, true] (bodyOf Try.f36)) := by kernel_rfl
theorem k3u : sub2 [true, true, true, true, true, true, true, false, false, true, false, true, true, true, true] (bodyOf Try.f36) = .seq (sub2 [true, true, true, true, true, true, true, false, false, true, false, true, true, true, true, false] (bodyOf Try.f36)) (sub2 [true, true, true, true, true, true, true, false, false, true, false, true, true, true, true, true] (bodyOf Try.f36)) := by kernel_rfl
theorem k3c : sub2 [true, true, true, true, true, true, true, false, false, true, false, true, true, true, true, false] (bodyOf Try.f36) = .block 6 (sub2 [true, true, true, true, true, true, true, false, false, true, false, true, true, true, true, false, false] (bodyOf Try.f36)) := by kernel_rfl
theorem k3d : sub2 [true, true, true, true, true, true, true, false, false, true, false, true, true, true, true, false, false] (bodyOf Try.f36) = .loop (sub2 [true, true, true, true, true, true, true, false, false, true, false, true, true, true, true, false, false, false] (bodyOf Try.f36)) := by kernel_rfl
theorem k3v : sub2 [true, true, true, true, true, true, true, false, false, true, false, true, true, true, true, true] (bodyOf Try.f36) = .seq (sub2 [true, true, true, true, true, true, true, false, false, true, false, true, true, true, true, true, false] (bodyOf Try.f36)) (sub2 [true, true, true, true, true, true, true, false, false, true, false, true, true, true, true, true, true] (bodyOf Try.f36)) := by kernel_rfl
theorem k3e : sub2 [true, true, true, true, true, true, true, false, false, true, false, true, true, true, true, true, false] (bodyOf Try.f36) = .block 16 (sub2 [true, true, true, true, true, true, true, false, false, true, false, true, true, true, true, true, false, false] (bodyOf Try.f36)) := by kernel_rfl
theorem k3f : sub2 [true, true, true, true, true, true, true, false, false, true, false, true, true, true, true, true, false, false] (bodyOf Try.f36) = .loop (sub2 [true, true, true, true, true, true, true, false, false, true, false, true, true, true, true, true, false, false, false] (bodyOf Try.f36)) := by kernel_rfl

structure A36 (X : X36) (a : Act) (sl s e : Nat) (al sz : Int) : Prop where
  F : F36 X a
  h11 : get a 11 = .int .i64 (sl : Int)
  h12 : get a 12 = .int .i64 (s : Int)
  h13 : get a 13 = .int .i64 (e : Int)
  h14 : get a 14 = .int .i64 al
  h15 : get a 15 = .int .i64 sz

structure A2 (X : X36) (a : Act) (sl s : Nat) : Prop where
  F : F36 X a
  h11 : get a 11 = .int .i64 (sl : Int)
  h12 : get a 12 = .int .i64 (s : Int)

structure A3 (X : X36) (a : Act) (sl s e : Nat) : Prop where
  F : F36 X a
  h11 : get a 11 = .int .i64 (sl : Int)
  h12 : get a 12 = .int .i64 (s : Int)
  h13 : get a 13 = .int .i64 (e : Int)

structure A4 (X : X36) (a : Act) (sl s e : Nat) (al : Int) : Prop where
  F : F36 X a
  h11 : get a 11 = .int .i64 (sl : Int)
  h12 : get a 12 = .int .i64 (s : Int)
  h13 : get a 13 = .int .i64 (e : Int)
  h14 : get a 14 = .int .i64 al

theorem bot_cases {n : Nat} {c : Nat → Bool} {e : Nat} (he : e ≤ n) : n ≤ e ∨ (e < n ∧ c e = true) ∨ (e < n ∧ c e = false) := by
  rcases Nat.lt_or_ge e n with h | h
  · cases hc : c e
    · exact .inr (.inr ⟨h, rfl⟩)
    · exact .inr (.inl ⟨h, rfl⟩)
  · exact .inl h

theorem scan4 {X : X36} {w0 w : World} {c : Nat → Bool} {sl s : Nat} {Q : Exit → Act → World → Prop} (mem : M36 X w0 w c) (k : Nat) : ∀ (a : Act) (e : Nat), A3 X a sl s e → e ≤ X.E.n → X.E.n - e ≤ k →
    (∀ a' e', A3 X a' sl s e' → e ≤ e' → e' ≤ X.E.n → (∀ i, e ≤ i → i < e' → c i = true) → Cm.Bot X.E.n c e' → Q (.exit 4) a' w) →
    Code.rounds Try.prog (sub2 [true, true, true, true, true, true, true, false, false, true, false, true, true, false, false, false] (bodyOf Try.f36)) Q (k + 1) a w := by
  induction k with
  | zero =>
    intro a e A he hk hQ
    rw [rounds_succ]
    refine p19_end A.F A.h11 A.h12 A.h13 mem (by omega) ?_
    intro a' F h11 h12 h13
    exact hQ a' e ⟨F, h11, h12, h13⟩ (Nat.le_refl _) he (fun i h1 h2 => by omega) (.inl (by omega))
  | succ k ih =>
    intro a e A he hk hQ
    rw [rounds_succ]
    rcases bot_cases (c := c) he with h | ⟨h, hc⟩ | ⟨h, hc⟩
    · refine p19_end A.F A.h11 A.h12 A.h13 mem h ?_
      intro a' F h11 h12 h13
      exact hQ a' e ⟨F, h11, h12, h13⟩ (Nat.le_refl _) he (fun i h1 h2 => by omega) (.inl (by omega))
    · refine p19_in A.F A.h11 A.h12 A.h13 mem h hc ?_
      intro a' F h11 h12 h13
      refine ih a' (e + 1) ⟨F, h11, h12, h13⟩ h (by omega) ?_
      intro a2 e2 A2 h1 h2 h3 h4
      refine hQ a2 e2 A2 (by omega) h2 (fun i i1 i2 => ?_) h4
      by_cases x : i = e
      · subst x; exact hc
      · exact h3 i (by omega) i2
    · refine p19_out A.F A.h11 A.h12 A.h13 mem h hc ?_
      intro a' F h11 h12 h13
      exact hQ a' e ⟨F, h11, h12, h13⟩ (Nat.le_refl _) he (fun i h1 h2 => by omega) (.inr hc)

theorem scan14 {X : X36} {w0 w : World} {c : Nat → Bool} {sl s : Nat} {al sz : Int} {Q : Exit → Act → World → Prop} (mem : M36 X w0 w c) (k : Nat) : ∀ (a : Act) (e : Nat), A36 X a sl s e al sz → e ≤ X.E.n → X.E.n - e ≤ k →
    (∀ a' e', A36 X a' sl s e' al sz → e ≤ e' → e' ≤ X.E.n → (∀ i, e ≤ i → i < e' → c i = true) → Cm.Bot X.E.n c e' → Q (.exit 14) a' w) →
    Code.rounds Try.prog (sub2 [true, true, true, true, true, true, true, false, false, true, false, true, true, true, true, false, false, false, false, true, true, true, true, false, false, false, true, false, true, true, false, false, false] (bodyOf Try.f36)) Q (k + 1) a w := by
  induction k with
  | zero =>
    intro a e A he hk hQ
    rw [rounds_succ]
    refine p34_end A.F A.h11 A.h12 A.h13 A.h14 A.h15 mem (by omega) ?_
    intro a' F h11 h12 h13 h14 h15
    exact hQ a' e ⟨F, h11, h12, h13, h14, h15⟩ (Nat.le_refl _) he (fun i h1 h2 => by omega) (.inl (by omega))
  | succ k ih =>
    intro a e A he hk hQ
    rw [rounds_succ]
    rcases bot_cases (c := c) he with h | ⟨h, hc⟩ | ⟨h, hc⟩
    · refine p34_end A.F A.h11 A.h12 A.h13 A.h14 A.h15 mem h ?_
      intro a' F h11 h12 h13 h14 h15
      exact hQ a' e ⟨F, h11, h12, h13, h14, h15⟩ (Nat.le_refl _) he (fun i h1 h2 => by omega) (.inl (by omega))
    · refine p34_in A.F A.h11 A.h12 A.h13 A.h14 A.h15 mem h hc ?_
      intro a' F h11 h12 h13 h14 h15
      refine ih a' (e + 1) ⟨F, h11, h12, h13, h14, h15⟩ h (by omega) ?_
      intro a2 e2 A2 h1 h2 h3 h4
      refine hQ a2 e2 A2 (by omega) h2 (fun i i1 i2 => ?_) h4
      by_cases x : i = e
      · subst x; exact hc
      · exact h3 i (by omega) i2
    · refine p34_out A.F A.h11 A.h12 A.h13 A.h14 A.h15 mem h hc ?_
      intro a' F h11 h12 h13 h14 h15
      exact hQ a' e ⟨F, h11, h12, h13, h14, h15⟩ (Nat.le_refl _) he (fun i h1 h2 => by omega) (.inr hc)

theorem absorb10 {X : X36} {w0 w : World} {c : Nat → Bool} {sl e r0 : Nat} {al sz : Int} {Q : Exit → Act → World → Prop} (mem : M36 X w0 w c) (k : Nat) : ∀ (a : Act) (s : Nat), A36 X a sl s e al sz → Cm.Core X.E r0 c s e → sl = Cm.un c s → s ≤ k →
    (∀ a' s', A36 X a' sl s' e al sz → Cm.Core X.E r0 c s' e → Cm.Top c s' → sl = Cm.un c s' → s' ≤ s → Q (.exit 10) a' w) →
    Code.rounds Try.prog (sub2 [true, true, true, true, true, true, true, false, false, true, false, true, true, true, true, false, false, false, false, true, false, false, false, true, false, true, true, false, false] (bodyOf Try.f36)) Q (k + 1) a w := by
  induction k with
  | zero =>
    intro a s A core hsl hk hQ
    rw [rounds_succ]
    refine p26_end A.F A.h11 A.h12 A.h13 A.h14 A.h15 mem (by omega) ?_
    intro a' F h11 h12 h13 h14 h15
    exact hQ a' s ⟨F, h11, h12, h13, h14, h15⟩ core (.inl (by omega)) hsl (Nat.le_refl _)
  | succ k ih =>
    intro a s A core hsl hk hQ
    have hlt := core.lt
    have hle := core.le
    rw [rounds_succ]
    by_cases h0 : s = 0
    · refine p26_end A.F A.h11 A.h12 A.h13 A.h14 A.h15 mem h0 ?_
      intro a' F h11 h12 h13 h14 h15
      exact hQ a' s ⟨F, h11, h12, h13, h14, h15⟩ core (.inl h0) hsl (Nat.le_refl _)
    · cases hc : c (s - 1)
      · refine p26_out A.F A.h11 A.h12 A.h13 A.h14 A.h15 mem (by omega) (by omega) hc ?_
        intro a' F h11 h12 h13 h14 h15
        exact hQ a' s ⟨F, h11, h12, h13, h14, h15⟩ core (.inr hc) hsl (Nat.le_refl _)
      · refine p26_in A.F A.h11 A.h12 A.h13 A.h14 A.h15 mem (by omega) (by omega) hc ?_
        intro a' F h11 h12 h13 h14 h15
        refine ih a' (s - 1) ⟨F, h11, h12, h13, h14, h15⟩ (core.absorb_up (by omega) hc) (by rw [hsl, Cm.un_up (by omega) hc]) (by omega) ?_
        intro a2 s2 A2 h1 h2 h3 h4
        exact hQ a2 s2 A2 h1 h2 h3 (by omega)

theorem up8 {X : X36} {w0 : World} {r0 z0 : Nat} {al sz : Int} {Q : Exit → Act → World → Prop} (k : Nat) : ∀ (a : Act) (w : World) (c : Nat → Bool) (s e : Nat), A36 X a (Cm.un c s) s e al sz → M36 X w0 w c → Cm.Core X.E r0 c s e → Cm.Top c s → Cm.Bot X.E.n c e → z0 ≤ e - s → s ≤ k →
    (∀ a' w' c' s' e', A36 X a' (Cm.un c' s') s' e' al sz → M36 X w0 w' c' → Cm.Core X.E r0 c' s' e' → Cm.Top c' s' → Cm.Bot X.E.n c' e' → z0 ≤ e' - s' → Q (.exit 8) a' w') →
    Code.rounds Try.prog (sub2 [true, true, true, true, true, true, true, false, false, true, false, true, true, true, true, false, false, false, false, true, false, false, false] (bodyOf Try.f36)) Q (k + 1) a w := by
  induction k with
  | zero =>
    intro a w c s e A mem core top bot hz hk hQ
    rw [rounds_succ, k8]
    refine wp_seq ?_
    refine p23_end A.F A.h11 A.h12 A.h13 A.h14 A.h15 mem (by omega) ?_
    intro a' w' F h11 h12 h13 h14 h15 mem'
    exact hQ a' w' c s e ⟨F, h11, h12, h13, h14, h15⟩ mem' core top bot hz
  | succ k ih =>
    intro a w c s e A mem core top bot hz hk hQ
    have hlt := core.lt
    have hle := core.le
    have hF := mem.b.F
    rw [rounds_succ, k8]
    refine wp_seq ?_
    by_cases h0 : s = 0
    · refine p23_end A.F A.h11 A.h12 A.h13 A.h14 A.h15 mem h0 ?_
      intro a' w' F h11 h12 h13 h14 h15 mem'
      exact hQ a' w' c s e ⟨F, h11, h12, h13, h14, h15⟩ mem' core top bot hz
    · by_cases heq : X.E.l (s - 1) = X.E.l (e - 1)
      · refine p23_in A.F A.h11 A.h12 A.h13 A.h14 A.h15 mem (by omega) hlt hle heq ?_
        intro a1 w1 F h11 h12 h13 h14 h15 mem1
        show Code.wp Try.prog (sub2 [true, true, true, true, true, true, true, false, false, true, false, true, true, true, true, false, false, false, false, true, false, false, false, true] (bodyOf Try.f36)) _ a1 w1
        rw [k8r]
        refine wp_block ?_
        rw [k8rl]
        refine wp_seq ?_
        have hoff : c (s - 1) = false := by
          rcases top with x | x
          · exact absurd x h0
          · exact x
        have u1 := Cm.un_up_off (c := c) (by omega) hoff
        have u2 : Cm.un c s ≤ Cm.un c X.E.n := Cm.un_mono (by omega)
        rw [core.tot] at u2
        refine p24 F h11 h12 h13 h14 h15 mem1 (by omega) hlt hle (by omega) (by omega) ?_
        clear F h11 h12 h13 h14 h15
        intro a2 F h11 h12 h13 h14 h15
        show Code.wp Try.prog (sub2 [true, true, true, true, true, true, true, false, false, true, false, true, true, true, true, false, false, false, false, true, false, false, false, true, false, true] (bodyOf Try.f36)) _ a2 w1
        rw [k8rlr]
        refine wp_seq ?_
        refine p25 F h11 h12 h13 h14 h15 mem1 (by omega) (by omega) ?_
        clear F h11 h12 h13 h14 h15
        intro a3 w3 F h11 h12 h13 h14 h15 mem3
        have cu := core.up (by omega) hoff
        show Code.wp Try.prog (sub2 [true, true, true, true, true, true, true, false, false, true, false, true, true, true, true, false, false, false, false, true, false, false, false, true, false, true, true] (bodyOf Try.f36)) _ a3 w3
        rw [k8b]
        refine wp_block ?_
        rw [k8o]
        refine wp_loop_rounds (s - 1 + 1) ?_
        refine absorb10 (c := Cm.up c s e) mem3 (s - 1) a3 (s - 1) ⟨F, h11, h12, h13, h14, h15⟩ cu.1 (by have := cu.2.2; omega) (Nat.le_refl _) ?_
        intro a4 s4 A4 core4 top4 hs4 hle4
        show Code.rounds Try.prog (sub2 [true, true, true, true, true, true, true, false, false, true, false, true, true, true, true, false, false, false, false, true, false, false, false] (bodyOf Try.f36)) Q (k + 1) a4 w3
        rw [hs4] at A4
        refine ih a4 w3 (Cm.up c s e) s4 (e - 1) A4 mem3 core4 top4 cu.2.1 (by omega) (by omega) hQ
      · refine p23_out A.F A.h11 A.h12 A.h13 A.h14 A.h15 mem (by omega) hlt hle heq ?_
        intro a' w' F h11 h12 h13 h14 h15 mem'
        exact hQ a' w' c s e ⟨F, h11, h12, h13, h14, h15⟩ mem' core top bot hz

/-- what the slot 'aligned' says -/
def Aln (E : Cm.Env) (c : Nat → Bool) (s e z0 : Nat) (al : Int) : Prop := al = -1 ∨ ∃ t : Nat, al = (t : Int) ∧ (z0 = e - s → ∃ p, Cm.Hist E c s e t p)

theorem down12 {X : X36} {w0 : World} {r0 z0 : Nat} {sz : Int} {Q : Exit → Act → World → Prop} (k : Nat) : ∀ (a : Act) (w : World) (c : Nat → Bool) (s e : Nat) (al : Int), A36 X a (Cm.un c s) s e al sz → M36 X w0 w c → Cm.Core X.E r0 c s e → Cm.Top c s → Cm.Bot X.E.n c e → z0 ≤ e - s → Aln X.E c s e z0 al → X.E.n - e ≤ k →
    (∀ a' w' c' s' e' al', A36 X a' (Cm.un c' s') s' e' al' sz → M36 X w0 w' c' → Cm.Core X.E r0 c' s' e' → Cm.Top c' s' → Cm.Bot X.E.n c' e' → z0 ≤ e' - s' → Aln X.E c' s' e' z0 al' → (e' = X.E.n ∨ X.E.l s' ≠ X.E.l e') → Q (.exit 12) a' w') →
    Code.rounds Try.prog (sub2 [true, true, true, true, true, true, true, false, false, true, false, true, true, true, true, false, false, false, false, true, true, true, true, false, false, false] (bodyOf Try.f36)) Q (k + 1) a w := by
  induction k with
  | zero =>
    intro a w c s e al A mem core top bot hz hal hk hQ
    have hle := core.le
    rw [rounds_succ, k12]
    refine wp_seq ?_
    refine p31_end A.F A.h11 A.h12 A.h13 A.h14 A.h15 mem (by omega) ?_
    intro a' w' F h11 h12 h13 h14 h15 mem'
    exact hQ a' w' c s e al ⟨F, h11, h12, h13, h14, h15⟩ mem' core top bot hz hal (.inl (by omega))
  | succ k ih =>
    intro a w c s e al A mem core top bot hz hal hk hQ
    have hlt := core.lt
    have hle := core.le
    have hF := mem.b.F
    rw [rounds_succ, k12]
    refine wp_seq ?_
    by_cases h0 : X.E.n ≤ e
    · refine p31_end A.F A.h11 A.h12 A.h13 A.h14 A.h15 mem h0 ?_
      intro a' w' F h11 h12 h13 h14 h15 mem'
      exact hQ a' w' c s e al ⟨F, h11, h12, h13, h14, h15⟩ mem' core top bot hz hal (.inl (by omega))
    · by_cases heq : X.E.l s = X.E.l e
      · refine p31_in A.F A.h11 A.h12 A.h13 A.h14 A.h15 mem hlt (by omega) heq ?_
        intro a1 w1 F h11 h12 h13 h14 h15 mem1
        show Code.wp Try.prog (sub2 [true, true, true, true, true, true, true, false, false, true, false, true, true, true, true, false, false, false, false, true, true, true, true, false, false, false, true] (bodyOf Try.f36)) _ a1 w1
        rw [k12r]
        refine wp_block ?_
        rw [k12rl]
        refine wp_seq ?_
        have hoff : c e = false := by
          rcases bot with x | x
          · exact absurd x (by omega)
          · exact x
        have cd := core.down top (by omega) hoff
        have u1 := cd.2.2
        have u2 : Cm.un c s ≤ Cm.un c X.E.n := Cm.un_mono (by omega)
        rw [core.tot] at u2
        have u3 : Cm.un (Cm.down c s e) (s + 1) ≤ Cm.un (Cm.down c s e) X.E.n := Cm.un_mono (by omega)
        rw [cd.1.tot] at u3
        refine p32 F h11 h12 h13 h14 h15 mem1 hlt (by omega) ?_
        clear F h11 h12 h13 h14 h15
        intro a2 w2 F h11 h12 h13 h14 h15 mem2
        show Code.wp Try.prog (sub2 [true, true, true, true, true, true, true, false, false, true, false, true, true, true, true, false, false, false, false, true, true, true, true, false, false, false, true, false, true] (bodyOf Try.f36)) _ a2 w2
        rw [k12rlr]
        refine wp_seq ?_
        refine p33 F h11 h12 h13 h14 h15 mem2 hlt (by omega) (by omega) ?_
        clear F h11 h12 h13 h14 h15
        intro a3 F h11 h12 h13 h14 h15
        show Code.wp Try.prog (sub2 [true, true, true, true, true, true, true, false, false, true, false, true, true, true, true, false, false, false, false, true, true, true, true, false, false, false, true, false, true, true] (bodyOf Try.f36)) _ a3 w2
        rw [k12s]
        refine wp_seq ?_
        rw [k12b]
        refine wp_block ?_
        rw [k12o]
        refine wp_loop_rounds (X.E.n - (e + 1) + 1) ?_
        refine scan14 (c := Cm.down c s e) (sl := Cm.un c s + 1) (s := s + 1) mem2 (X.E.n - (e + 1)) a3 (e + 1) ⟨F, h11, h12, h13, h14, h15⟩ (by omega) (Nat.le_refl _) ?_
        intro a4 e4 A4 h1 h2 h3 h4
        show Code.wp Try.prog (sub2 [true, true, true, true, true, true, true, false, false, true, false, true, true, true, true, false, false, false, false, true, true, true, true, false, false, false, true, false, true, true, true] (bodyOf Try.f36)) _ a4 w2
        rw [← u1] at A4
        have core4 : Cm.Core X.E r0 (Cm.down c s e) (s + 1) e4 := by
          have : ∀ j, j ≤ e4 - (e + 1) → Cm.Core X.E r0 (Cm.down c s e) (s + 1) (e + 1 + j) := by
            intro j
            induction j with
            | zero => intro _; exact cd.1
            | succ j ihj => intro hj; exact (ihj (by omega)).absorb_down (by omega) (h3 _ (by omega) (by omega))
          have := this (e4 - (e + 1)) (Nat.le_refl _)
          rwa [show e + 1 + (e4 - (e + 1)) = e4 by omega] at this
        have hal4 : Aln X.E (Cm.down c s e) (s + 1) e4 z0 al := by
          rcases hal with x | ⟨t, x, y⟩
          · exact .inl x
          · refine .inr ⟨t, x, fun hz4 => ?_⟩
            obtain rfl : e4 = e + 1 := by omega
            obtain ⟨p, hp⟩ := y (by omega)
            exact ⟨p, hp.down hlt⟩
        cases hS : X.E.S (Cm.un (Cm.down c s e) (s + 1))
        · refine p36_f A4.F A4.h11 A4.h12 A4.h13 A4.h14 A4.h15 mem2 (by omega) (by omega) hS ?_
          clear F h11 h12 h13 h14 h15
          intro a5 F h11 h12 h13 h14 h15
          show Code.rounds Try.prog (sub2 [true, true, true, true, true, true, true, false, false, true, false, true, true, true, true, false, false, false, false, true, true, true, true, false, false, false] (bodyOf Try.f36)) Q (k + 1) a5 w2
          exact ih a5 w2 (Cm.down c s e) (s + 1) e4 al ⟨F, h11, h12, h13, h14, h15⟩ mem2 core4 cd.2.1 h4 (by omega) hal4 (by omega) hQ
        · refine p36_t A4.F A4.h11 A4.h12 A4.h13 A4.h14 A4.h15 mem2 (by omega) (by omega) hS ?_
          clear F h11 h12 h13 h14 h15
          intro a5 F h11 h12 h13 h14 h15
          show Code.rounds Try.prog (sub2 [true, true, true, true, true, true, true, false, false, true, false, true, true, true, true, false, false, false, false, true, true, true, true, false, false, false] (bodyOf Try.f36)) Q (k + 1) a5 w2
          exact ih a5 w2 (Cm.down c s e) (s + 1) e4 e4 ⟨F, h11, h12, h13, h14, h15⟩ mem2 core4 cd.2.1 h4 (by omega) (.inr ⟨e4, rfl, fun _ => ⟨s + 1, Cm.Hist.here (by omega) cd.2.1 hS⟩⟩) (by omega) hQ
      · refine p31_out A.F A.h11 A.h12 A.h13 A.h14 A.h15 mem hlt (by omega) heq ?_
        intro a' w' F h11 h12 h13 h14 h15 mem'
        exact hQ a' w' c s e al ⟨F, h11, h12, h13, h14, h15⟩ mem' core top bot hz hal (.inr heq)

/-- where a run is left -/
def End (E : Cm.Env) (c : Nat → Bool) (s e : Nat) (al : Int) : Prop := (al = -1 ∧ (e = E.n ∨ E.l s ≠ E.l e)) ∨ ∃ t p : Nat, al = (t : Int) ∧ Cm.Hist E c s e t p

theorem pass6_one {X : X36} {w0 : World} {r0 f : Nat} {Q : Exit → Act → World → Prop} (a : Act) (w : World) (c : Nat → Bool) (s e : Nat) (al : Int) (A : A4 X a (Cm.un c s) s e al) (mem : M36 X w0 w c) (core : Cm.Core X.E r0 c s e) (top : Cm.Top c s) (bot : Cm.Bot X.E.n c e)
    (hR : ∀ a' w' c' s' e' al' sz', A36 X a' (Cm.un c' s') s' e' al' sz' → M36 X w0 w' c' → Cm.Core X.E r0 c' s' e' → Cm.Top c' s' → Cm.Bot X.E.n c' e' → e - s < e' - s' → Code.rounds Try.prog (sub2 [true, true, true, true, true, true, true, false, false, true, false, true, true, true, true, false, false, false] (bodyOf Try.f36)) Q f a' w')
    (hQ : ∀ a' w' c' s' e' al' sz', A36 X a' (Cm.un c' s') s' e' al' sz' → M36 X w0 w' c' → Cm.Core X.E r0 c' s' e' → Cm.Top c' s' → Cm.Bot X.E.n c' e' → End X.E c' s' e' al' → Q (.exit 6) a' w') :
    Code.rounds Try.prog (sub2 [true, true, true, true, true, true, true, false, false, true, false, true, true, true, true, false, false, false] (bodyOf Try.f36)) Q (f + 1) a w := by
  have hlt := core.lt
  have hle := core.le
  have hF := mem.b.F
  rw [rounds_succ, k6]
  refine wp_block ?_
  rw [k7]
  refine wp_seq ?_
  refine p22 A.F A.h11 A.h12 A.h13 A.h14 mem hlt hle ?_
  intro a1 F h11 h12 h13 h14 h15
  show Code.wp Try.prog (sub2 [true, true, true, true, true, true, true, false, false, true, false, true, true, true, true, false, false, false, false, true] (bodyOf Try.f36)) _ a1 w
  rw [k7r]
  refine wp_seq ?_
  rw [k7b]
  refine wp_block ?_
  rw [k7o]
  refine wp_loop_rounds (s + 1) ?_
  refine up8 (r0 := r0) (z0 := e - s) s a1 w c s e ⟨F, h11, h12, h13, h14, h15⟩ mem core top bot (Nat.le_refl _) (Nat.le_refl _) ?_
  clear F h11 h12 h13 h14 h15
  intro a2 w2 c2 s2 e2 A2 mem2 core2 top2 bot2 hz2
  have hlt2 := core2.lt
  have hle2 := core2.le
  have u2 : Cm.un c2 s2 ≤ Cm.un c2 X.E.n := Cm.un_mono (by omega)
  rw [core2.tot] at u2
  show Code.wp Try.prog (sub2 [true, true, true, true, true, true, true, false, false, true, false, true, true, true, true, false, false, false, false, true, true] (bodyOf Try.f36)) _ a2 w2
  rw [k7rr]
  refine wp_seq ?_
  refine p28 A2.F A2.h11 A2.h12 A2.h13 A2.h14 A2.h15 mem2 ?_
  intro a3 F h11 h12 h13 h14 h15
  show Code.wp Try.prog (sub2 [true, true, true, true, true, true, true, false, false, true, false, true, true, true, true, false, false, false, false, true, true, true] (bodyOf Try.f36)) _ a3 w2
  rw [k7s]
  refine wp_seq ?_
  have rest : ∀ a4 al4, A36 X a4 (Cm.un c2 s2) s2 e2 al4 ((e : Int) - s) → Aln X.E c2 s2 e2 (e - s) al4 → Code.wp Try.prog (sub2 [true, true, true, true, true, true, true, false, false, true, false, true, true, true, true, false, false, false, false, true, true, true, true] (bodyOf Try.f36)) (Exit.inBlock 7 (Exit.then (Code.rounds Try.prog (sub2 [true, true, true, true, true, true, true, false, false, true, false, true, true, true, true, false, false, false] (bodyOf Try.f36)) Q f) Q)) a4 w2 := by
    intro a4 al4 A4 hal4
    rw [k7t]
    refine wp_seq ?_
    rw [k7c]
    refine wp_block ?_
    rw [k7d]
    refine wp_loop_rounds (X.E.n - e2 + 1) ?_
    refine down12 (r0 := r0) (z0 := e - s) (X.E.n - e2) a4 w2 c2 s2 e2 al4 A4 mem2 core2 top2 bot2 hz2 hal4 (Nat.le_refl _) ?_
    intro a5 w5 c5 s5 e5 al5 A5 mem5 core5 top5 bot5 hz5 hal5 low5
    have hlt5 := core5.lt
    have hle5 := core5.le
    show Code.wp Try.prog (sub2 [true, true, true, true, true, true, true, false, false, true, false, true, true, true, true, false, false, false, false, true, true, true, true, true] (bodyOf Try.f36)) _ a5 w5
    by_cases hsz : e5 - s5 = e - s
    · refine p38_eq A5.F A5.h11 A5.h12 A5.h13 A5.h14 A5.h15 mem5 hlt5 hle5 (by omega) ?_
      intro a6 F6 k11 k12 k13 k14 k15
      refine hQ a6 w5 c5 s5 e5 al5 _ ⟨F6, k11, k12, k13, k14, k15⟩ mem5 core5 top5 bot5 ?_
      rcases hal5 with x | ⟨t, x, y⟩
      · exact .inl ⟨x, low5⟩
      · obtain ⟨p, hp⟩ := y hsz.symm
        exact .inr ⟨t, p, x, hp⟩
    · refine p38_ne A5.F A5.h11 A5.h12 A5.h13 A5.h14 A5.h15 mem5 hlt5 hle5 (by omega) ?_
      intro a6 F6 k11 k12 k13 k14 k15
      exact hR a6 w5 c5 s5 e5 al5 _ ⟨F6, k11, k12, k13, k14, k15⟩ mem5 core5 top5 bot5 (by omega)
  cases hS : X.E.S (Cm.un c2 s2)
  · refine p29_f F h11 h12 h13 h14 h15 mem2 (by omega) (by omega) hS ?_
    clear F h11 h12 h13 h14 h15
    intro a4 F h11 h12 h13 h14 h15
    exact rest a4 (-1) ⟨F, h11, h12, h13, h14, h15⟩ (.inl rfl)
  · refine p29_t F h11 h12 h13 h14 h15 mem2 (by omega) (by omega) hS ?_
    clear F h11 h12 h13 h14 h15
    intro a4 F h11 h12 h13 h14 h15
    exact rest a4 e2 ⟨F, h11, h12, h13, h14, h15⟩ (.inr ⟨e2, rfl, fun _ => ⟨s2, Cm.Hist.here (by omega) top2 hS⟩⟩)

theorem pass6 {X : X36} {w0 : World} {r0 : Nat} {Q : Exit → Act → World → Prop} (k : Nat) : ∀ (a : Act) (w : World) (c : Nat → Bool) (s e : Nat) (al : Int), A4 X a (Cm.un c s) s e al → M36 X w0 w c → Cm.Core X.E r0 c s e → Cm.Top c s → Cm.Bot X.E.n c e → X.E.n - (e - s) ≤ k →
    (∀ a' w' c' s' e' al' sz', A36 X a' (Cm.un c' s') s' e' al' sz' → M36 X w0 w' c' → Cm.Core X.E r0 c' s' e' → Cm.Top c' s' → Cm.Bot X.E.n c' e' → End X.E c' s' e' al' → Q (.exit 6) a' w') →
    Code.rounds Try.prog (sub2 [true, true, true, true, true, true, true, false, false, true, false, true, true, true, true, false, false, false] (bodyOf Try.f36)) Q (k + 1) a w := by
  induction k with
  | zero =>
    intro a w c s e al A mem core top bot hk hQ
    exact pass6_one a w c s e al A mem core top bot (fun a' w' c' s' e' al' sz' A' mem' core' top' bot' hz => by have := core'.le; have := core.le; have := core.lt; have := core'.lt; omega) hQ
  | succ k ih =>
    intro a w c s e al A mem core top bot hk hQ
    refine pass6_one a w c s e al A mem core top bot (fun a' w' c' s' e' al' sz' A' mem' core' top' bot' hz => ?_) hQ
    have := core'.le
    have := core'.lt
    exact ih a' w' c' s' e' al' ⟨A'.F, A'.h11, A'.h12, A'.h13, A'.h14⟩ mem' core' top' bot' (by omega) hQ

theorem back16 {X : X36} {w0 : World} {r0 t p : Nat} {sz : Int} {Q : Exit → Act → World → Prop} (k : Nat) : ∀ (a : Act) (w : World) (c : Nat → Bool) (s e : Nat), A36 X a (Cm.un c s) s e (t : Int) sz → M36 X w0 w c → Cm.Core X.E r0 c s e → Cm.Bot X.E.n c e → Cm.Hist X.E c s e t p → s - p ≤ k →
    (∀ a' w' c' s' e', A36 X a' (Cm.un c' s') s' e' (t : Int) sz → M36 X w0 w' c' → Cm.Core X.E r0 c' s' e' → Cm.Bot X.E.n c' e' → Cm.Top c' s' → X.E.S (Cm.un c' s') = true → Q (.exit 16) a' w') →
    Code.rounds Try.prog (sub2 [true, true, true, true, true, true, true, false, false, true, false, true, true, true, true, true, false, false, false] (bodyOf Try.f36)) Q (k + 1) a w := by
  induction k with
  | zero =>
    intro a w c s e A mem core bot hist hk hQ
    have h1 := hist.ps
    have h2 := hist.al_
    have h3 := core.lt
    obtain rfl : p = s := by omega
    rw [rounds_succ]
    refine p39_out A.F A.h11 A.h12 A.h13 A.h14 A.h15 mem (by omega) (by omega) ?_
    intro a' F h11 h12 h13 h14 h15
    exact hQ a' w c p e ⟨F, h11, h12, h13, h14, h15⟩ mem core bot hist.top hist.slot
  | succ k ih =>
    intro a w c s e A mem core bot hist hk hQ
    have h1 := hist.ps
    have h2 := hist.al_
    have h3 := core.lt
    have h4 := core.le
    have hF := mem.b.F
    rw [rounds_succ]
    by_cases hp : p = s
    · subst hp
      refine p39_out A.F A.h11 A.h12 A.h13 A.h14 A.h15 mem (by omega) (by omega) ?_
      intro a' F h11 h12 h13 h14 h15
      exact hQ a' w c p e ⟨F, h11, h12, h13, h14, h15⟩ mem core bot hist.top hist.slot
    · have hoff := hist.off (s - 1) (by omega) (by omega)
      have cu := core.up (by omega) hoff
      have u1 := cu.2.2
      have u2 : Cm.un c s ≤ Cm.un c X.E.n := Cm.un_mono (by omega)
      rw [core.tot] at u2
      refine p39_in A.F A.h11 A.h12 A.h13 A.h14 A.h15 mem (by omega) h3 h4 (by omega) (by omega) (by omega) (by omega) ?_
      intro a' w' F h11 h12 h13 h14 h15 mem'
      have e1 : Cm.un c s - 1 = Cm.un (Cm.up c s e) (s - 1) := by omega
      rw [e1] at h11
      exact ih a' w' (Cm.up c s e) (s - 1) (e - 1) ⟨F, h11, h12, h13, h14, h15⟩ mem' cu.1 cu.2.1 (hist.up h3 (by omega)) (by omega) hQ

theorem outer2_one {X : X36} {w0 : World} {f : Nat} {Q : Exit → Act → World → Prop} (a : Act) (w : World) (c : Nat → Bool) (s : Nat) (A : A2 X a (Cm.un c s) s) (mem : M36 X w0 w c) (o : Cm.Out X.E c s)
    (hR : ∀ a' w' c' s', A2 X a' (Cm.un c' s') s' → M36 X w0 w' c' → Cm.Out X.E c' s' → Cm.left X.E c' s' < Cm.left X.E c s → Code.rounds Try.prog (sub2 [true, true, true, true, true, true, true, false, false] (bodyOf Try.f36)) Q f a' w')
    (hQ : ∀ a' w' c', F36 X a' → M36 X w0 w' c' → Cm.Good X.E.n X.E.l X.E.S c' X.E.n → Cm.un c' X.E.n = X.E.F → Q (.exit 2) a' w') :
    Code.rounds Try.prog (sub2 [true, true, true, true, true, true, true, false, false] (bodyOf Try.f36)) Q (f + 1) a w := by
  have hle := o.le
  have hF := mem.b.F
  have hsl := Cm.un_le c s
  rw [rounds_succ, k2]
  refine wp_seq ?_
  by_cases hs : s < X.E.n
  case neg =>
    refine p14_out A.F A.h11 A.h12 mem (by omega) ?_
    intro a' F h11 h12
    obtain rfl : s = X.E.n := by omega
    exact hQ a' w c F mem o.good o.tot
  refine p14_in A.F A.h11 A.h12 mem hs ?_
  intro a1 F h11 h12
  show Code.wp Try.prog (sub2 [true, true, true, true, true, true, true, false, false, true] (bodyOf Try.f36)) _ a1 w
  rw [k2r]
  refine wp_block ?_
  rw [k3]
  refine wp_seq ?_
  cases hc : c s
  · refine p15_off F h11 h12 mem hs hc hsl ?_
    clear F h11 h12
    intro a2 F h11 h12
    have u1 := Cm.un_off hc
    show Code.rounds Try.prog (sub2 [true, true, true, true, true, true, true, false, false] (bodyOf Try.f36)) Q f a2 w
    refine hR a2 w c (s + 1) ⟨F, by rw [h11, u1]; rfl, h12⟩ mem (o.next hs hc) (Cm.left_next hs hc)
  · refine p15_on F h11 h12 mem hs hc ?_
    clear F h11 h12
    intro a2 F h11 h12
    show Code.wp Try.prog (sub2 [true, true, true, true, true, true, true, false, false, true, false, true] (bodyOf Try.f36)) _ a2 w
    rw [k3r]
    refine wp_seq ?_
    refine p18 F h11 h12 mem ?_
    clear F h11 h12
    intro a3 F h11 h12 h13
    show Code.wp Try.prog (sub2 [true, true, true, true, true, true, true, false, false, true, false, true, true] (bodyOf Try.f36)) _ a3 w
    rw [k3s]
    refine wp_seq ?_
    rw [k3b]
    refine wp_block ?_
    rw [k3o]
    refine wp_loop_rounds (X.E.n - s + 1) ?_
    refine scan4 (c := c) mem (X.E.n - s) a3 s ⟨F, h11, h12, h13⟩ hle (Nat.le_refl _) ?_
    clear F h11 h12 h13
    intro a4 e4 A4 h1 h2 h3 h4
    have hse : s < e4 := by
      rcases Nat.lt_or_ge s e4 with x | x
      · exact x
      · obtain rfl : e4 = s := by omega
        rcases h4 with y | y
        · omega
        · rw [hc] at y; exact absurd y (by simp)
    obtain ⟨core, top⟩ := o.run hse h2 h3
    show Code.wp Try.prog (sub2 [true, true, true, true, true, true, true, false, false, true, false, true, true, true] (bodyOf Try.f36)) _ a4 w
    rw [k3t]
    refine wp_seq ?_
    refine p21 A4.F A4.h11 A4.h12 A4.h13 mem ?_
    intro a5 F h11 h12 h13 h14
    show Code.wp Try.prog (sub2 [true, true, true, true, true, true, true, false, false, true, false, true, true, true, true] (bodyOf Try.f36)) _ a5 w
    rw [k3u]
    refine wp_seq ?_
    rw [k3c]
    refine wp_block ?_
    rw [k3d]
    refine wp_loop_rounds (X.E.n - (e4 - s) + 1) ?_
    refine pass6 (r0 := s - Cm.un c s) (X.E.n - (e4 - s)) a5 w c s e4 (-1) ⟨F, h11, h12, h13, h14⟩ mem core top h4 (Nat.le_refl _) ?_
    clear F h11 h12 h13 h14
    intro a6 w6 c6 s6 e6 al6 sz6 A6 mem6 core6 top6 bot6 end6
    show Code.wp Try.prog (sub2 [true, true, true, true, true, true, true, false, false, true, false, true, true, true, true, true] (bodyOf Try.f36)) _ a6 w6
    rw [k3v]
    refine wp_seq ?_
    rw [k3e]
    refine wp_block ?_
    rw [k3f]
    rcases end6 with ⟨rfl, low⟩ | ⟨t, p, rfl, hist⟩
    · refine wp_loop_rounds (0 + 1) ?_
      rw [rounds_succ]
      refine p39_neg A6.F A6.h11 A6.h12 A6.h13 A6.h14 A6.h15 mem6 (by omega) ?_
      intro a7 F h11 h12 h13 h14 h15
      show Code.wp Try.prog (sub2 [true, true, true, true, true, true, true, false, false, true, false, true, true, true, true, true, true] (bodyOf Try.f36)) _ a7 w6
      refine p42 F h11 h12 h13 h14 h15 mem6 ?_
      clear F h11 h12 h13 h14 h15
      intro a8 F h11 h12 h13 h14 h15
      show Code.rounds Try.prog (sub2 [true, true, true, true, true, true, true, false, false] (bodyOf Try.f36)) Q f a8 w6
      have hun := Cm.un_run (c := c6) (s := s6) (e := e6) (by have := core6.lt; omega) core6.on
      rw [← hun] at h11
      refine hR a8 w6 c6 e6 ⟨F, h11, h12⟩ mem6 (core6.out top6 bot6 ?_) (Cm.left_run core6 hle)
      rcases low with x | x
      · exact .inl x
      · exact .inr (.inl x)
    · refine wp_loop_rounds (s6 - p + 1) ?_
      refine back16 (r0 := s - Cm.un c s) (s6 - p) a6 w6 c6 s6 e6 A6 mem6 core6 bot6 hist (Nat.le_refl _) ?_
      intro a7 w7 c7 s7 e7 A7 mem7 core7 bot7 top7 hS7
      show Code.wp Try.prog (sub2 [true, true, true, true, true, true, true, false, false, true, false, true, true, true, true, true, true] (bodyOf Try.f36)) _ a7 w7
      refine p42 A7.F A7.h11 A7.h12 A7.h13 A7.h14 A7.h15 mem7 ?_
      intro a8 F h11 h12 h13 h14 h15
      show Code.rounds Try.prog (sub2 [true, true, true, true, true, true, true, false, false] (bodyOf Try.f36)) Q f a8 w7
      have hun := Cm.un_run (c := c7) (s := s7) (e := e7) (by have := core7.lt; omega) core7.on
      rw [← hun] at h11
      exact hR a8 w7 c7 e7 ⟨F, h11, h12⟩ mem7 (core7.out top7 bot7 (.inr (.inr hS7))) (Cm.left_run core7 hle)

theorem outer2 {X : X36} {w0 : World} {Q : Exit → Act → World → Prop} (k : Nat) : ∀ (a : Act) (w : World) (c : Nat → Bool) (s : Nat), A2 X a (Cm.un c s) s → M36 X w0 w c → Cm.Out X.E c s → Cm.left X.E c s ≤ k →
    (∀ a' w' c', F36 X a' → M36 X w0 w' c' → Cm.Good X.E.n X.E.l X.E.S c' X.E.n → Cm.un c' X.E.n = X.E.F → Q (.exit 2) a' w') →
    Code.rounds Try.prog (sub2 [true, true, true, true, true, true, true, false, false] (bodyOf Try.f36)) Q (k + 1) a w := by
  induction k with
  | zero =>
    intro a w c s A mem o hk hQ
    have hle := o.le
    exact outer2_one a w c s A mem o (fun a' w' c' s' A' mem' o' hl => by omega) hQ
  | succ k ih =>
    intro a w c s A mem o hk hQ
    exact outer2_one a w c s A mem o (fun a' w' c' s' A' mem' o' hl => ih a' w' c' s' A' mem' o' (by omega) hQ) hQ
end Go.Proofs.Qxb6601687a
