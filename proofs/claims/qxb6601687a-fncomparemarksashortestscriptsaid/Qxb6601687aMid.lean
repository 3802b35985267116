/-
  PLAIN: the distance of what lies behind a point; a search whose budget is ample.
-/
import Derived.Test.Qxb6601687aMyersB
namespace Go.Proofs.Qxb6601687a.My

theorem tail_e (a b : Nat → Int) (n m x y : Nat) (hx : x ≤ n) (hy : y ≤ m) : d (fun i => a (x + i)) (fun j => b (y + j)) ((n - x : Nat) : Int) ((m - y : Nat) : Int) = e a b n m x y := by
  have h := e_start (a := fun i => a (x + i)) (b := fun j => b (y + j)) (n := n - x) (m := m - y)
  unfold D at h
  rw [← h]
  unfold e
  rw [show (((n - x : Nat) : Int) - 0) = ((n - x : Nat) : Int) by omega, show (((m - y : Nat) : Int) - 0) = ((m - y : Nat) : Int) by omega, show ((n : Int) - (x : Int)) = ((n - x : Nat) : Int) by omega, show ((m : Int) - (y : Int)) = ((m - y : Nat) : Int) by omega]
  rw [d_nat, d_nat]
  rw [L_congr (a := fun i => a (x + (n - x - 1 - i))) (a' := fun i => a (n - 1 - i)) (b := fun j => b (y + (m - y - 1 - j))) (b' := fun j => b (m - 1 - j)) (n - x) (m - y)
    (fun i hi => by show a _ = a _; rw [show x + (n - x - 1 - i) = n - 1 - i by omega]) (fun j hj => by show b _ = b _; rw [show y + (m - y - 1 - j) = m - 1 - j by omega])]

/-- what a step costs -/
theorem fStep_cost {a b : Nat → Int} {n m : Nat} (hn : n ≤ 1024) {c k : Int} {G F : Int → Int} {s : Int} : match fStep a b n m c k G F s with
    | .error (_, s') => s - 1025 ≤ s'
    | .ok (_, s') => s - 1025 ≤ s' := by
  unfold fStep
  by_cases h1 : (k + c) % 2 ≠ 0
  · rw [if_pos h1]; show s - 1025 ≤ s; omega
  · rw [if_neg h1]
    by_cases h2 : s - 1 < 0
    · rw [if_pos h2]; show s - 1025 ≤ s - 1; omega
    · rw [if_neg h2]
      by_cases h3 : stF n m c k F < 0
      · rw [if_pos h3]; show s - 1025 ≤ s - 1; omega
      · rw [if_neg h3]
        have hf := snF_up (a := a) (b := b) (n := n) (m := m) (k := k) n (stF n m c k F)
        generalize stF (↑n) (↑m) c k F = X at *
        generalize snF a b (↑n) (↑m) k n X = X' at *
        by_cases h4 : ((n : Int) - m) % 2 ≠ 0 ∧ (n : Int) - m - (c - 1) ≤ k ∧ k ≤ (n : Int) - m + (c - 1) ∧ 0 ≤ G k ∧ G k ≤ X'
        · rw [if_pos h4]; show s - 1025 ≤ s - 1 - (X' - X); omega
        · rw [if_neg h4]; show s - 1025 ≤ s - 1 - (X' - X); omega

theorem bStep_cost {a b : Nat → Int} {n m : Nat} (hn : n ≤ 1024) {c k : Int} {G F : Int → Int} {s : Int} : match bStep a b n m c k F G s with
    | .error (_, s') => s - 1025 ≤ s'
    | .ok (_, s') => s - 1025 ≤ s' := by
  unfold bStep
  by_cases h1 : (k - ((n : Int) - m) + c) % 2 ≠ 0
  · rw [if_pos h1]; show s - 1025 ≤ s; omega
  · rw [if_neg h1]
    by_cases h2 : s - 1 < 0
    · rw [if_pos h2]; show s - 1025 ≤ s - 1; omega
    · rw [if_neg h2]
      by_cases h3 : n < stB n m c k G
      · rw [if_pos h3]; show s - 1025 ≤ s - 1; omega
      · rw [if_neg h3]
        have h0 := stB_nonneg (n := n) (m := m) (c := c) (k := k) (G := G)
        have hf := snB_dn (a := a) (b := b) (k := k) n (stB n m c k G) h0
        generalize stB (↑n) (↑m) c k G = X at *
        generalize snB a b k n X = X' at *
        by_cases h4 : ((n : Int) - m) % 2 = 0 ∧ -c ≤ k ∧ k ≤ c ∧ X' ≤ F k
        · rw [if_pos h4]; show s - 1025 ≤ s - 1 - (X - X'); omega
        · rw [if_neg h4]; show s - 1025 ≤ s - 1 - (X - X'); omega

theorem sweep_cost {step : Int → (Int → Int) → Int → Except Res ((Int → Int) × Int)} (hstep : ∀ k F s, match step k F s with
    | .error (_, s') => s - 1025 ≤ s'
    | .ok (_, s') => s - 1025 ≤ s') (j : Nat) : ∀ k F s, match sweep step j k F s with
    | .error (_, s') => s - 1025 * j ≤ s'
    | .ok (_, s') => s - 1025 * j ≤ s' := by
  induction j with
  | zero => intro k F s; show s - 1025 * ((0 : Nat) : Int) ≤ s; omega
  | succ j ih =>
    intro k F s
    have h1 := hstep k F s
    simp only [sweep]
    revert h1
    cases step k F s with
    | error r => obtain ⟨o, s1⟩ := r; intro h1; simp only [] at h1 ⊢; omega
    | ok p =>
      obtain ⟨F', s'⟩ := p
      intro h1
      have h2 := ih (k - 1) F' s'
      simp only [] at h1 ⊢
      revert h2
      cases sweep step j (k - 1) F' s' with
      | error r => obtain ⟨o, s2⟩ := r; intro h2; simp only [] at h2 ⊢; omega
      | ok p => obtain ⟨o, s2⟩ := p; intro h2; simp only [] at h2 ⊢; omega

theorem rounds_cost {a b : Nat → Int} {n m : Nat} (hn : n ≤ 1024) (hm : m ≤ 1024) (j : Nat) : ∀ (c : Int) (F G : Int → Int) (s : Int), s - 4200450 * j ≤ (rounds a b n m j c F G s).2 := by
  induction j with
  | zero => intro c F G s; simp only [rounds]; omega
  | succ j ih =>
    intro c F G s
    have h1 := sweep_cost (step := fun k F s => fStep a b n m c k G F s) (fun k F s => fStep_cost hn) (min c n - max (-c) (-m) + 1).toNat (min c n) F s
    have hj1 : (min c (n : Int) - max (-c) (-(m : Int)) + 1).toNat ≤ 2049 := by omega
    simp only [rounds, fRow]
    revert h1
    generalize (min c (n : Int) - max (-c) (-(m : Int)) + 1).toNat = j1 at *
    cases sweep (fun k F s => fStep a b n m c k G F s) j1 (min c n) F s with
    | error r => obtain ⟨o, s1⟩ := r; intro h1; simp only [] at h1 ⊢; omega
    | ok p =>
      obtain ⟨F', s'⟩ := p
      intro h1
      have h2 := sweep_cost (step := fun k G s => bStep a b n m c k F' G s) (fun k G s => bStep_cost hn) (min ((n : Int) - m + c) n - max ((n : Int) - m - c) (-m) + 1).toNat (min ((n : Int) - m + c) n) G s'
      have hj2 : (min ((n : Int) - m + c) n - max ((n : Int) - m - c) (-m) + 1).toNat ≤ 2049 := by omega
      simp only [bRow] at h1 ⊢
      revert h2
      generalize (min ((n : Int) - m + c) n - max ((n : Int) - m - c) (-m) + 1).toNat = j2 at *
      cases sweep (fun k G s => bStep a b n m c k F' G s) j2 (min ((n : Int) - m + c) n) G s' with
      | error r => obtain ⟨o, s2⟩ := r; intro h2; simp only [] at h2 ⊢; omega
      | ok p =>
        obtain ⟨G', s2⟩ := p
        intro h2
        have h3 := ih (c + 1) F' G' s2
        simp only [] at h2 ⊢
        omega

theorem ms_cost (a b : Nat → Int) (n m : Nat) (hn : n ≤ 1024) (hm : m ≤ 1024) (s : Int) : s - 5000000000 ≤ (ms a b n m s).2 := by
  have := rounds_cost (a := a) (b := b) hn hm ((n + m + 1) / 2 + 1) 0 (fun _ => -1) (fun _ => -1) s
  unfold ms
  omega

/-- an ample budget is never overdrawn -/
theorem ms_ample (a b : Nat → Int) (n m : Nat) (hn : n ≤ 1024) (hm : m ≤ 1024) (s : Int) (hs : 5000000000 ≤ s) : ∃ r s', ms a b n m s = (some r, s') ∧ Good a b n m r := by
  have h1 := ms_law a b n m s
  have h2 := ms_cost a b n m hn hm s
  revert h1 h2
  cases ms a b n m s with
  | mk o s' =>
    cases o with
    | none => intro h1 h2; simp only [] at h1 h2; omega
    | some r => intro h1 _; exact ⟨r, s', rfl, h1⟩
end Go.Proofs.Qxb6601687a.My
