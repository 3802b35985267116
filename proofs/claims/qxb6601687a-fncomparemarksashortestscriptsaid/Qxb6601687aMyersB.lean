/-
  PLAIN: how far the budget can fall in one search.
-/
import Derived.Test.Qxb6601687aMyers
namespace Go.Proofs.Qxb6601687a.My

/-- s' may be left of s -/
def Fell (n : Nat) (s s' : Int) : Prop := s' ≤ s ∧ min s (-(n : Int)) - 1 ≤ s'
def FellOk (n : Nat) (s s' : Int) : Prop := s' ≤ s ∧ (s' = s ∨ -(n : Int) ≤ s')

theorem snF_up {a b : Nat → Int} {n m : Nat} {k : Int} (f : Nat) (x : Int) : x ≤ snF a b n m k f x ∧ (snF a b n m k f x ≤ x ∨ snF a b n m k f x ≤ n) := by
  induction f generalizing x with
  | zero => simp only [snF]; omega
  | succ f ih =>
    simp only [snF]
    split
    · have := ih (x + 1); omega
    · omega

theorem snB_dn {a b : Nat → Int} {k : Int} (f : Nat) (x : Int) (hx : 0 ≤ x) : snB a b k f x ≤ x ∧ 0 ≤ snB a b k f x := by
  induction f generalizing x with
  | zero => simp only [snB]; omega
  | succ f ih =>
    simp only [snB]
    split
    · have := ih (x - 1) (by omega); omega
    · omega

theorem stB_nonneg {n m : Nat} {c k : Int} {G : Int → Int} : 0 ≤ stB n m c k G := by
  unfold stB; split <;> (try split) <;> (try split) <;> omega

theorem fStep_fell {a b : Nat → Int} {n m : Nat} {c k : Int} {G F : Int → Int} {s : Int} : match fStep a b n m c k G F s with
    | .error (_, s') => Fell n s s'
    | .ok (_, s') => FellOk n s s' := by
  unfold fStep
  by_cases h1 : (k + c) % 2 ≠ 0
  · rw [if_pos h1]; exact ⟨by omega, .inl rfl⟩
  · rw [if_neg h1]
    by_cases h2 : s - 1 < 0
    · rw [if_pos h2]; exact ⟨by omega, by omega⟩
    · rw [if_neg h2]
      by_cases h3 : stF n m c k F < 0
      · rw [if_pos h3]; exact ⟨by omega, .inr (by omega)⟩
      · rw [if_neg h3]
        have hf := snF_up (a := a) (b := b) (n := n) (m := m) (k := k) n (stF n m c k F)
        generalize stF (↑n) (↑m) c k F = X at *
        generalize snF a b (↑n) (↑m) k n X = X' at *
        by_cases h4 : ((n : Int) - m) % 2 ≠ 0 ∧ (n : Int) - m - (c - 1) ≤ k ∧ k ≤ (n : Int) - m + (c - 1) ∧ 0 ≤ G k ∧ G k ≤ X'
        · rw [if_pos h4]; exact ⟨by omega, by omega⟩
        · rw [if_neg h4]; exact ⟨by omega, .inr (by omega)⟩

theorem bStep_fell {a b : Nat → Int} {n m : Nat} {c k : Int} {G F : Int → Int} {s : Int} : match bStep a b n m c k F G s with
    | .error (_, s') => Fell n s s'
    | .ok (_, s') => FellOk n s s' := by
  unfold bStep
  by_cases h1 : (k - ((n : Int) - m) + c) % 2 ≠ 0
  · rw [if_pos h1]; exact ⟨by omega, .inl rfl⟩
  · rw [if_neg h1]
    by_cases h2 : s - 1 < 0
    · rw [if_pos h2]; exact ⟨by omega, by omega⟩
    · rw [if_neg h2]
      by_cases h3 : n < stB n m c k G
      · rw [if_pos h3]; exact ⟨by omega, .inr (by omega)⟩
      · rw [if_neg h3]
        have h0 := stB_nonneg (n := n) (m := m) (c := c) (k := k) (G := G)
        have hf := snB_dn (a := a) (b := b) (k := k) n (stB n m c k G) h0
        generalize stB (↑n) (↑m) c k G = X at *
        generalize snB a b k n X = X' at *
        by_cases h4 : ((n : Int) - m) % 2 = 0 ∧ -c ≤ k ∧ k ≤ c ∧ X' ≤ F k
        · rw [if_pos h4]; exact ⟨by omega, by omega⟩
        · rw [if_neg h4]; exact ⟨by omega, .inr (by omega)⟩

theorem sweep_fell {n : Nat} {step : Int → (Int → Int) → Int → Except Res ((Int → Int) × Int)} (hstep : ∀ k F s, match step k F s with
    | .error (_, s') => Fell n s s'
    | .ok (_, s') => FellOk n s s') (j : Nat) : ∀ k F s, match sweep step j k F s with
    | .error (_, s') => Fell n s s'
    | .ok (_, s') => FellOk n s s' := by
  induction j with
  | zero => intro k F s; exact ⟨by omega, .inl rfl⟩
  | succ j ih =>
    intro k F s
    have h1 := hstep k F s
    simp only [sweep]
    revert h1
    cases step k F s with
    | error r => exact id
    | ok p =>
      obtain ⟨F', s'⟩ := p
      intro h1
      have h2 := ih (k - 1) F' s'
      simp only [] at h1 ⊢
      revert h2
      cases sweep step j (k - 1) F' s' with
      | error r => obtain ⟨o, s2⟩ := r; intro h2; unfold Fell FellOk at *; simp only [] at *; omega
      | ok p => obtain ⟨o, s2⟩ := p; intro h2; unfold FellOk at *; simp only [] at *; omega

theorem rounds_fell {a b : Nat → Int} {n m : Nat} (j : Nat) : ∀ (c : Int) (F G : Int → Int) (s : Int), Fell n s (rounds a b n m j c F G s).2 := by
  induction j with
  | zero => intro c F G s; exact ⟨by simp [rounds], by simp only [rounds]; omega⟩
  | succ j ih =>
    intro c F G s
    have h1 := sweep_fell (n := n) (step := fun k F s => fStep a b n m c k G F s) (fun k F s => fStep_fell) (min c n - max (-c) (-m) + 1).toNat (min c n) F s
    simp only [rounds, fRow]
    revert h1
    cases sweep (fun k F s => fStep a b n m c k G F s) (min c n - max (-c) (-m) + 1).toNat (min c n) F s with
    | error r => obtain ⟨o, s1⟩ := r; exact id
    | ok p =>
      obtain ⟨F', s'⟩ := p
      intro h1
      have h2 := sweep_fell (n := n) (step := fun k G s => bStep a b n m c k F' G s) (fun k G s => bStep_fell) (min ((n : Int) - m + c) n - max ((n : Int) - m - c) (-m) + 1).toNat (min ((n : Int) - m + c) n) G s'
      simp only [bRow] at h1 ⊢
      revert h2
      cases sweep (fun k G s => bStep a b n m c k F' G s) (min ((n : Int) - m + c) n - max ((n : Int) - m - c) (-m) + 1).toNat (min ((n : Int) - m + c) n) G s' with
      | error r => obtain ⟨o, s2⟩ := r; intro h2; unfold Fell FellOk at *; simp only [] at *; omega
      | ok p =>
        obtain ⟨G', s2⟩ := p
        intro h2
        have h3 := ih (c + 1) F' G' s2
        unfold Fell FellOk at *
        simp only [] at *
        omega

theorem ms_fell (a b : Nat → Int) (n m : Nat) (s : Int) : Fell n s (ms a b n m s).2 := rounds_fell _ _ _ _ _
end Go.Proofs.Qxb6601687a.My
