/-
  PLAIN: the model of compare; it gives up only where the budget is overdrawn; a larger budget changes nothing but what is left.
-/
import Derived.Test.Qxb6601687aMyersB
namespace Go.Proofs.Qxb6601687a.My

def trimL (A B : Nat → Int) (i1 j1 : Nat) : Nat → Nat → Nat → Nat × Nat
  | 0, i, j => (i, j)
  | f + 1, i, j => if i < i1 ∧ j < j1 ∧ A i = B j then trimL A B i1 j1 f (i + 1) (j + 1) else (i, j)

def trimR (A B : Nat → Int) (i0 j0 : Nat) : Nat → Nat → Nat → Nat × Nat
  | 0, i, j => (i, j)
  | f + 1, i, j => if i0 < i ∧ j0 < j ∧ A (i - 1) = B (j - 1) then trimR A B i0 j0 f (i - 1) (j - 1) else (i, j)

/-- the marks, those from lo up to hi added -/
def mk (g : Nat → Bool) (lo hi : Nat) : Nat → Bool := fun i => g i || (decide (lo ≤ i) && decide (i < hi))

abbrev St := (Nat → Bool) × (Nat → Bool) × Int

def core (A B : Nat → Int) (rec : Nat → Nat → Nat → Nat → St → Bool × St) (p i1 q j1 : Nat) (st : St) : Bool × St :=
  match ms (fun i => A (p + i)) (fun j => B (q + j)) (i1 - p) (j1 - q) st.2.2 with
  | (none, s') => (false, st.1, st.2.1, s')
  | (some r, s') => if (r.1 = ((i1 - p : Nat) : Int) ∧ r.2.1 = ((j1 - q : Nat) : Int)) ∨ (r.2.2.1 = 0 ∧ r.2.2.2 = 0) then (false, st.1, st.2.1, s')
    else match rec p (p + r.1.toNat) q (q + r.2.1.toNat) (st.1, st.2.1, s') with
      | (false, st') => (false, st')
      | (true, st') => rec (p + r.2.2.1.toNat) i1 (q + r.2.2.2.toNat) j1 st'

def cmp (A B : Nat → Int) : Nat → Nat → Nat → Nat → Nat → St → Bool × St
  | 0, _, _, _, _, st => (false, st)
  | f + 1, i0, i1, j0, j1, st =>
    if (trimL A B i1 j1 (i1 - i0) i0 j0).1 = (trimR A B (trimL A B i1 j1 (i1 - i0) i0 j0).1 (trimL A B i1 j1 (i1 - i0) i0 j0).2 (i1 - (trimL A B i1 j1 (i1 - i0) i0 j0).1) i1 j1).1 ∨
       (trimL A B i1 j1 (i1 - i0) i0 j0).2 = (trimR A B (trimL A B i1 j1 (i1 - i0) i0 j0).1 (trimL A B i1 j1 (i1 - i0) i0 j0).2 (i1 - (trimL A B i1 j1 (i1 - i0) i0 j0).1) i1 j1).2 then
      (true, mk st.1 (trimL A B i1 j1 (i1 - i0) i0 j0).1 (trimR A B (trimL A B i1 j1 (i1 - i0) i0 j0).1 (trimL A B i1 j1 (i1 - i0) i0 j0).2 (i1 - (trimL A B i1 j1 (i1 - i0) i0 j0).1) i1 j1).1,
        mk st.2.1 (trimL A B i1 j1 (i1 - i0) i0 j0).2 (trimR A B (trimL A B i1 j1 (i1 - i0) i0 j0).1 (trimL A B i1 j1 (i1 - i0) i0 j0).2 (i1 - (trimL A B i1 j1 (i1 - i0) i0 j0).1) i1 j1).2, st.2.2)
    else core A B (cmp A B f) (trimL A B i1 j1 (i1 - i0) i0 j0).1 (trimR A B (trimL A B i1 j1 (i1 - i0) i0 j0).1 (trimL A B i1 j1 (i1 - i0) i0 j0).2 (i1 - (trimL A B i1 j1 (i1 - i0) i0 j0).1) i1 j1).1
      (trimL A B i1 j1 (i1 - i0) i0 j0).2 (trimR A B (trimL A B i1 j1 (i1 - i0) i0 j0).1 (trimL A B i1 j1 (i1 - i0) i0 j0).2 (i1 - (trimL A B i1 j1 (i1 - i0) i0 j0).1) i1 j1).2 st

/-- the two trims, taken apart -/
structure Trim (A B : Nat → Int) (i0 i1 j0 j1 p u q v : Nat) : Prop where
  p0 : i0 ≤ p
  pu : p ≤ u
  u1 : u ≤ i1
  q0 : j0 ≤ q
  qv : q ≤ v
  v1 : v ≤ j1
  l : p - i0 = q - j0
  r : i1 - u = j1 - v
  ml : ∀ t, t < p - i0 → A (i0 + t) = B (j0 + t)
  mr : ∀ t, t < i1 - u → A (u + t) = B (v + t)
  ne : p < u → q < v → A p ≠ B q
  nr : p < u → q < v → A (u - 1) ≠ B (v - 1)

theorem trimL_spec {A B : Nat → Int} {i1 j1 : Nat} (f : Nat) : ∀ i j, i ≤ i1 → j ≤ j1 → i1 - i ≤ f →
    i ≤ (trimL A B i1 j1 f i j).1 ∧ (trimL A B i1 j1 f i j).1 ≤ i1 ∧ j ≤ (trimL A B i1 j1 f i j).2 ∧ (trimL A B i1 j1 f i j).2 ≤ j1 ∧ (trimL A B i1 j1 f i j).1 - i = (trimL A B i1 j1 f i j).2 - j ∧
    (∀ t, t < (trimL A B i1 j1 f i j).1 - i → A (i + t) = B (j + t)) ∧ ¬ ((trimL A B i1 j1 f i j).1 < i1 ∧ (trimL A B i1 j1 f i j).2 < j1 ∧ A (trimL A B i1 j1 f i j).1 = B (trimL A B i1 j1 f i j).2) := by
  induction f with
  | zero => intro i j h1 h2 h3; simp only [trimL]; exact ⟨by omega, h1, by omega, h2, by omega, by omega, by omega⟩
  | succ f ih =>
    intro i j h1 h2 h3
    simp only [trimL]
    by_cases h : i < i1 ∧ j < j1 ∧ A i = B j
    · rw [if_pos h]
      obtain ⟨q1, q2, q3, q4, q5, q6, q7⟩ := ih (i + 1) (j + 1) (by omega) (by omega) (by omega)
      refine ⟨by omega, q2, by omega, q4, by omega, fun t ht => ?_, q7⟩
      cases t with
      | zero => exact h.2.2
      | succ t => have := q6 t (by omega); rw [show i + (t + 1) = i + 1 + t by omega, show j + (t + 1) = j + 1 + t by omega]; exact this
    · rw [if_neg h]
      exact ⟨by omega, h1, by omega, h2, by omega, by intro t ht; simp only [] at ht; omega, h⟩

theorem trimR_spec {A B : Nat → Int} {i0 j0 : Nat} (f : Nat) : ∀ i j, i0 ≤ i → j0 ≤ j → i - i0 ≤ f →
    (trimR A B i0 j0 f i j).1 ≤ i ∧ i0 ≤ (trimR A B i0 j0 f i j).1 ∧ (trimR A B i0 j0 f i j).2 ≤ j ∧ j0 ≤ (trimR A B i0 j0 f i j).2 ∧ i - (trimR A B i0 j0 f i j).1 = j - (trimR A B i0 j0 f i j).2 ∧
    (∀ t, t < i - (trimR A B i0 j0 f i j).1 → A ((trimR A B i0 j0 f i j).1 + t) = B ((trimR A B i0 j0 f i j).2 + t)) ∧
    ¬ (i0 < (trimR A B i0 j0 f i j).1 ∧ j0 < (trimR A B i0 j0 f i j).2 ∧ A ((trimR A B i0 j0 f i j).1 - 1) = B ((trimR A B i0 j0 f i j).2 - 1)) := by
  induction f with
  | zero => intro i j h1 h2 h3; simp only [trimR]; exact ⟨by omega, h1, by omega, h2, by omega, by omega, by omega⟩
  | succ f ih =>
    intro i j h1 h2 h3
    simp only [trimR]
    by_cases h : i0 < i ∧ j0 < j ∧ A (i - 1) = B (j - 1)
    · rw [if_pos h]
      obtain ⟨q1, q2, q3, q4, q5, q6, q7⟩ := ih (i - 1) (j - 1) (by omega) (by omega) (by omega)
      refine ⟨by omega, q2, by omega, q4, by omega, fun t ht => ?_, q7⟩
      by_cases hlast : t < i - 1 - (trimR A B i0 j0 f (i - 1) (j - 1)).1
      · exact q6 t hlast
      · rw [show (trimR A B i0 j0 f (i - 1) (j - 1)).1 + t = i - 1 by omega, show (trimR A B i0 j0 f (i - 1) (j - 1)).2 + t = j - 1 by omega]; exact h.2.2
    · rw [if_neg h]
      exact ⟨by omega, h1, by omega, h2, by omega, by intro t ht; simp only [] at ht; omega, h⟩

theorem trim_spec (A B : Nat → Int) (i0 i1 j0 j1 : Nat) (hi : i0 ≤ i1) (hj : j0 ≤ j1) :
    ∃ p q u v, trimL A B i1 j1 (i1 - i0) i0 j0 = (p, q) ∧ trimR A B p q (i1 - p) i1 j1 = (u, v) ∧ Trim A B i0 i1 j0 j1 p u q v := by
  have h1 := trimL_spec (A := A) (B := B) (i1 := i1) (j1 := j1) (i1 - i0) i0 j0 hi hj (by omega)
  generalize trimL A B i1 j1 (i1 - i0) i0 j0 = t at *
  obtain ⟨p, q⟩ := t
  obtain ⟨a1, a2, a3, a4, a5, a6, a7⟩ := h1
  simp only [] at a1 a2 a3 a4 a5 a6 a7
  have h2 := trimR_spec (A := A) (B := B) (i0 := p) (j0 := q) (i1 - p) i1 j1 a2 a4 (by omega)
  generalize hu : trimR A B p q (i1 - p) i1 j1 = t at *
  obtain ⟨u, v⟩ := t
  obtain ⟨b1, b2, b3, b4, b5, b6, b7⟩ := h2
  simp only [] at b1 b2 b3 b4 b5 b6 b7
  refine ⟨p, q, u, v, rfl, hu, ⟨a1, b2, b1, a3, b4, b3, a5, b5, a6, b6, fun h3 h4 he => a7 ⟨by omega, by omega, he⟩, fun h3 h4 he => b7 ⟨h3, h4, he⟩⟩⟩

/-- one step of the model, the trims by their names -/
theorem cmp_step (A B : Nat → Int) (f i0 i1 j0 j1 : Nat) (st : St) {p q u v : Nat} (h1 : trimL A B i1 j1 (i1 - i0) i0 j0 = (p, q)) (h2 : trimR A B p q (i1 - p) i1 j1 = (u, v)) :
    cmp A B (f + 1) i0 i1 j0 j1 st = if p = u ∨ q = v then (true, mk st.1 p u, mk st.2.1 q v, st.2.2) else core A B (cmp A B f) p u q v st := by
  simp only [cmp, h1, h2]

/-- two ends that differ: two edits at least -/
theorem D_two {a b : Nat → Int} {n m : Nat} (hn : 0 < n) (hm : 0 < m) (h0 : a 0 ≠ b 0) (h1 : a (n - 1) ≠ b (m - 1)) : 2 ≤ D a b n m := by
  have hb := d_bound a b (x := n) (y := m) (by omega) (by omega)
  have h0' : D a b n m ≠ 0 := fun h => h0 ((d_zero_match a b n m h).2 0 hn)
  have h1' : D a b n m ≠ 1 := by
    intro h
    unfold D at h
    rcases d_pred a b (x := n) (y := m) (by omega) (by omega) (.inl (by omega)) with ⟨_, _, hmt, _⟩ | ⟨_, hd⟩ | ⟨_, hd⟩
    · rw [show ((n : Int) - 1).toNat = n - 1 by omega, show ((m : Int) - 1).toNat = m - 1 by omega] at hmt; exact h1 hmt
    · rw [h, show ((n : Int) - 1) = ((n - 1 : Nat) : Int) by omega] at hd
      have hz := d_zero_match a b (n - 1) m (by omega)
      exact h0 (hz.2 0 (by omega))
    · rw [h, show ((m : Int) - 1) = ((m - 1 : Nat) : Int) by omega] at hd
      have hz := d_zero_match a b n (m - 1) (by omega)
      exact h0 (hz.2 0 hn)
  unfold D at *
  omega

/-- the split is a true split -/
theorem Good.split {a b : Nat → Int} {n m : Nat} {r : Int × Int × Int × Int} (g : Good a b n m r) (hD : 2 ≤ D a b n m) : ¬ ((r.1 = n ∧ r.2.1 = m) ∨ (r.2.2.1 = 0 ∧ r.2.2.2 = 0)) := by
  obtain ⟨x0, x1, xn, y0, y1, ym, len, same, whole, half⟩ := g
  rintro (⟨h1, h2⟩ | ⟨h1, h2⟩)
  · rw [h1, h2] at half
    unfold D at *
    omega
  · rw [show r.1 = 0 by omega, show r.2.1 = 0 by omega, d_zero] at half
    omega

theorem ms_low (a b : Nat → Int) (n m : Nat) (s : Int) (h : s - 1 < 0) : ms a b n m s = (none, s - 1) := by
  have h1 : fRow a b n m 0 (fun _ => -1) (fun _ => -1) s = .error (none, s - 1) := by
    unfold fRow
    rw [show (min (0 : Int) n - max (-0) (-(m : Int)) + 1).toNat = 1 by omega, show min (0 : Int) n = 0 by omega]
    simp only [sweep, fStep]
    rw [if_neg (by omega), if_pos h]
  unfold ms
  simp only [rounds, h1]

/-- what core comes to -/
theorem core_cases (A B : Nat → Int) (rec : Nat → Nat → Nat → Nat → St → Bool × St) {p u q v : Nat} (dl il : Nat → Bool) (s : Int) (hpu : p < u) (hqv : q < v) (hne : A p ≠ B q) (hnr : A (u - 1) ≠ B (v - 1)) :
    (∃ s', ms (fun i => A (p + i)) (fun j => B (q + j)) (u - p) (v - q) s = (none, s') ∧ s' < 0 ∧ core A B rec p u q v (dl, il, s) = (false, dl, il, s')) ∨
    (∃ r s', ms (fun i => A (p + i)) (fun j => B (q + j)) (u - p) (v - q) s = (some r, s') ∧ Good (fun i => A (p + i)) (fun j => B (q + j)) (u - p) (v - q) r ∧
      ¬ ((r.1 = ((u - p : Nat) : Int) ∧ r.2.1 = ((v - q : Nat) : Int)) ∨ (r.2.2.1 = 0 ∧ r.2.2.2 = 0)) ∧ 1 ≤ s ∧
      core A B rec p u q v (dl, il, s) = match rec p (p + r.1.toNat) q (q + r.2.1.toNat) (dl, il, s') with
        | (false, st') => (false, st')
        | (true, st') => rec (p + r.2.2.1.toNat) u (q + r.2.2.2.toNat) v st') := by
  have hlaw := ms_law (fun i => A (p + i)) (fun j => B (q + j)) (u - p) (v - q) s
  unfold core
  simp only []
  generalize hm : ms (fun i => A (p + i)) (fun j => B (q + j)) (u - p) (v - q) s = res at *
  obtain ⟨o, s'⟩ := res
  cases o with
  | none => exact .inl ⟨s', rfl, hlaw, rfl⟩
  | some r =>
    have hg : Good (fun i => A (p + i)) (fun j => B (q + j)) (u - p) (v - q) r := hlaw
    have hD : 2 ≤ D (fun i => A (p + i)) (fun j => B (q + j)) (u - p) (v - q) := by
      refine D_two (by omega) (by omega) ?_ ?_
      · exact hne
      · show A (p + (u - p - 1)) ≠ B (q + (v - q - 1))
        rw [show p + (u - p - 1) = u - 1 by omega, show q + (v - q - 1) = v - 1 by omega]; exact hnr
    have hs := hg.split hD
    have hs1 : 1 ≤ s := by
      rcases Int.lt_or_le (s - 1) 0 with h | h
      · have := ms_low (fun i => A (p + i)) (fun j => B (q + j)) (u - p) (v - q) s h
        rw [hm] at this; simp at this
      · omega
    refine .inr ⟨r, s', rfl, hg, hs, hs1, ?_⟩
    simp only []
    rw [if_neg hs]

/-- THE FIRST LAW: compare gives up only where the budget is overdrawn -/
theorem cmp_false (A B : Nat → Int) (f : Nat) : ∀ (i0 i1 j0 j1 : Nat) (st : St), i0 ≤ i1 → j0 ≤ j1 → (i1 - i0) + (j1 - j0) < f → (cmp A B f i0 i1 j0 j1 st).1 = false → (cmp A B f i0 i1 j0 j1 st).2.2.2 < 0 := by
  induction f with
  | zero => intro i0 i1 j0 j1 st _ _ h; omega
  | succ f ih =>
    intro i0 i1 j0 j1 st hi hj hf
    obtain ⟨dl, il, s⟩ := st
    obtain ⟨p, q, u, v, h1, h2, t⟩ := trim_spec A B i0 i1 j0 j1 hi hj
    obtain ⟨t1, t2, t3, t4, t5, t6, t7, t8, t9, t10, t11, t12⟩ := t
    rw [cmp_step A B f i0 i1 j0 j1 _ h1 h2]
    by_cases he : p = u ∨ q = v
    · rw [if_pos he]; intro h; cases h
    · rw [if_neg he]
      have hpu : p < u := by omega
      have hqv : q < v := by omega
      rcases core_cases A B (cmp A B f) dl il s hpu hqv (t11 hpu hqv) (t12 hpu hqv) with ⟨s', hm, hs', hc⟩ | ⟨r, s', hm, g, hsp, hs1, hc⟩
      · rw [hc]; intro _; exact hs'
      · rw [hc]
        have g1 := g.x0; have g2 := g.x1; have g3 := g.xn; have g4 := g.y0; have g5 := g.y1; have g6 := g.ym
        have ih1 := ih p (p + r.1.toNat) q (q + r.2.1.toNat) (dl, il, s') (by omega) (by omega) (by omega)
        revert ih1
        cases cmp A B f p (p + r.1.toNat) q (q + r.2.1.toNat) (dl, il, s') with
        | mk ok st' =>
          cases ok with
          | false => intro ih1; exact ih1
          | true =>
            intro _
            exact ih (p + r.2.2.1.toNat) u (q + r.2.2.2.toNat) v st' (by omega) (by omega) (by omega)

/-- THE LAW OF THE BUDGET -/
theorem cmp_more (A B : Nat → Int) (t : Int) (ht : 0 ≤ t) (f : Nat) : ∀ (i0 i1 j0 j1 : Nat) (dl il : Nat → Bool) (s : Int), (cmp A B f i0 i1 j0 j1 (dl, il, s)).1 = true →
    cmp A B f i0 i1 j0 j1 (dl, il, s + t) = (true, (cmp A B f i0 i1 j0 j1 (dl, il, s)).2.1, (cmp A B f i0 i1 j0 j1 (dl, il, s)).2.2.1, (cmp A B f i0 i1 j0 j1 (dl, il, s)).2.2.2 + t) := by
  induction f with
  | zero => intro i0 i1 j0 j1 dl il s h; simp [cmp] at h
  | succ f ih =>
    intro i0 i1 j0 j1 dl il s
    generalize h1 : trimL A B i1 j1 (i1 - i0) i0 j0 = pq
    obtain ⟨p, q⟩ := pq
    generalize h2 : trimR A B p q (i1 - p) i1 j1 = uv
    obtain ⟨u, v⟩ := uv
    rw [cmp_step A B f i0 i1 j0 j1 _ h1 h2, cmp_step A B f i0 i1 j0 j1 _ h1 h2]
    by_cases he : p = u ∨ q = v
    · simp only [if_pos he]; intro _; trivial
    · simp only [if_neg he]
      unfold core
      simp only []
      have hmore := ms_more (fun i => A (p + i)) (fun j => B (q + j)) (u - p) (v - q) s t ht
      revert hmore
      cases ms (fun i => A (p + i)) (fun j => B (q + j)) (u - p) (v - q) s with
      | mk o s' =>
        cases o with
        | none => intro _ h; cases h
        | some r =>
          intro hmore
          simp only [] at hmore ⊢
          rw [hmore]
          simp only []
          by_cases hd : (r.1 = ((u - p : Nat) : Int) ∧ r.2.1 = ((v - q : Nat) : Int)) ∨ (r.2.2.1 = 0 ∧ r.2.2.2 = 0)
          · simp only [if_pos hd]; intro h; cases h
          · simp only [if_neg hd]
            have i1' := ih p (p + r.1.toNat) q (q + r.2.1.toNat) dl il s'
            revert i1'
            cases hc : cmp A B f p (p + r.1.toNat) q (q + r.2.1.toNat) (dl, il, s') with
            | mk ok st' =>
              obtain ⟨dl', il', s''⟩ := st'
              cases ok with
              | false => intro _ h; cases h
              | true =>
                intro i1'
                have i2 := i1' rfl
                simp only [] at i2
                rw [i2]
                simp only []
                exact ih (p + r.2.2.1.toNat) u (q + r.2.2.2.toNat) v dl' il' s''

/-- how far the budget can fall -/
theorem cmp_fell (A B : Nat → Int) (f : Nat) : ∀ (i0 i1 j0 j1 : Nat) (st : St), i0 ≤ i1 → j0 ≤ j1 → i1 ≤ 1024 → j1 ≤ 1024 →
    (cmp A B f i0 i1 j0 j1 st).2.2.2 ≤ st.2.2 ∧ min st.2.2 (-1025) - 1 ≤ (cmp A B f i0 i1 j0 j1 st).2.2.2 ∧ ((cmp A B f i0 i1 j0 j1 st).1 = true → min st.2.2 (-1025) ≤ (cmp A B f i0 i1 j0 j1 st).2.2.2) := by
  induction f with
  | zero => intro i0 i1 j0 j1 st _ _ _ _; simp only [cmp]; exact ⟨by omega, by omega, by intro h; cases h⟩
  | succ f ih =>
    intro i0 i1 j0 j1 st hi hj hi1 hj1
    obtain ⟨dl, il, s⟩ := st
    obtain ⟨p, q, u, v, h1, h2, t⟩ := trim_spec A B i0 i1 j0 j1 hi hj
    obtain ⟨t1, t2, t3, t4, t5, t6, t7, t8, t9, t10, t11, t12⟩ := t
    rw [cmp_step A B f i0 i1 j0 j1 _ h1 h2]
    by_cases he : p = u ∨ q = v
    · rw [if_pos he]; exact ⟨by simp, by simp only []; omega, by simp only []; omega⟩
    · rw [if_neg he]
      have hpu : p < u := by omega
      have hqv : q < v := by omega
      have hfell := ms_fell (fun i => A (p + i)) (fun j => B (q + j)) (u - p) (v - q) s
      unfold Fell at hfell
      rcases core_cases A B (cmp A B f) dl il s hpu hqv (t11 hpu hqv) (t12 hpu hqv) with ⟨s', hm, hs', hc⟩ | ⟨r, s', hm, g, hsp, hs1, hc⟩
      · rw [hc]; rw [hm] at hfell; simp only [] at hfell ⊢; exact ⟨by omega, by omega, by intro h; cases h⟩
      · rw [hc]
        rw [hm] at hfell
        simp only [] at hfell
        have g1 := g.x0; have g2 := g.x1; have g3 := g.xn; have g4 := g.y0; have g5 := g.y1; have g6 := g.ym
        have ih1 := ih p (p + r.1.toNat) q (q + r.2.1.toNat) (dl, il, s') (by omega) (by omega) (by omega) (by omega)
        revert ih1
        cases cmp A B f p (p + r.1.toNat) q (q + r.2.1.toNat) (dl, il, s') with
        | mk ok st' =>
          cases ok with
          | false => intro ih1; simp only [] at ih1 ⊢; exact ⟨by omega, by omega, by intro h; cases h⟩
          | true =>
            intro ih1
            have ih2 := ih (p + r.2.2.1.toNat) u (q + r.2.2.2.toNat) v st' (by omega) (by omega) (by omega) (by omega)
            simp only [] at ih1 ih2 ⊢
            have ih1' := ih1.2.2 (by first | trivial | rfl)
            exact ⟨by omega, by omega, fun h => by have := ih2.2.2 h; omega⟩
end Go.Proofs.Qxb6601687a.My
