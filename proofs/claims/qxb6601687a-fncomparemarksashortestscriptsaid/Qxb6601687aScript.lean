/-
  PLAIN: what compare marks is a shortest script.
-/
import Derived.Test.Qxb6601687aCmp
import Derived.Test.Qxb6601687aMid
namespace Go.Proofs.Qxb6601687a.My
set_option linter.unusedVariables false

/-- the unmarked lines among n from i on -/
def K (A : Nat → Int) (g : Nat → Bool) (i : Nat) : Nat → List Int
  | 0 => []
  | n + 1 => K A g i n ++ (if g (i + n) = true then [] else [A (i + n)])
/-- the marks among n from i on -/
def C (g : Nat → Bool) (i : Nat) : Nat → Nat
  | 0 => 0
  | n + 1 => C g i n + (if g (i + n) = true then 1 else 0)

theorem K_add (A : Nat → Int) (g : Nat → Bool) (i n m : Nat) : K A g i (n + m) = K A g i n ++ K A g (i + n) m := by
  induction m with
  | zero => simp [K]
  | succ m ih => rw [← Nat.add_assoc]; simp only [K]; rw [ih, ← List.append_assoc, Nat.add_assoc]
theorem C_add (g : Nat → Bool) (i n m : Nat) : C g i (n + m) = C g i n + C g (i + n) m := by
  induction m with
  | zero => simp [C]
  | succ m ih => rw [← Nat.add_assoc]; simp only [C]; rw [ih, Nat.add_assoc, Nat.add_assoc]
theorem K_congr {A : Nat → Int} {g h : Nat → Bool} {i : Nat} (n : Nat) (e : ∀ t, t < n → g (i + t) = h (i + t)) : K A g i n = K A h i n := by
  induction n with
  | zero => rfl
  | succ n ih => simp only [K]; rw [ih (fun t ht => e t (by omega)), e n (by omega)]
theorem C_congr {g h : Nat → Bool} {i : Nat} (n : Nat) (e : ∀ t, t < n → g (i + t) = h (i + t)) : C g i n = C h i n := by
  induction n with
  | zero => rfl
  | succ n ih => simp only [C]; rw [ih (fun t ht => e t (by omega)), e n (by omega)]
theorem K_match {A B : Nat → Int} {g h : Nat → Bool} {i j : Nat} (n : Nat) (e : ∀ t, t < n → A (i + t) = B (j + t)) (hg : ∀ t, t < n → g (i + t) = false) (hh : ∀ t, t < n → h (j + t) = false) : K A g i n = K B h j n := by
  induction n with
  | zero => rfl
  | succ n ih =>
    simp only [K]
    rw [ih (fun t ht => e t (by omega)) (fun t ht => hg t (by omega)) (fun t ht => hh t (by omega)), hg n (by omega), hh n (by omega), e n (by omega)]
theorem C_off {g : Nat → Bool} {i : Nat} (n : Nat) (hg : ∀ t, t < n → g (i + t) = false) : C g i n = 0 := by
  induction n with
  | zero => rfl
  | succ n ih => simp only [C]; rw [ih (fun t ht => hg t (by omega)), hg n (by omega)]; simp
theorem K_on {A : Nat → Int} {g : Nat → Bool} {i : Nat} (n : Nat) (hg : ∀ t, t < n → g (i + t) = true) : K A g i n = [] := by
  induction n with
  | zero => rfl
  | succ n ih => simp only [K]; rw [ih (fun t ht => hg t (by omega)), hg n (by omega)]; simp
theorem C_on {g : Nat → Bool} {i : Nat} (n : Nat) (hg : ∀ t, t < n → g (i + t) = true) : C g i n = n := by
  induction n with
  | zero => rfl
  | succ n ih => simp only [C]; rw [ih (fun t ht => hg t (by omega)), hg n (by omega)]; simp

/-- the distance of two ranges -/
def dist (A B : Nat → Int) (i0 i1 j0 j1 : Nat) : Int := d (fun t => A (i0 + t)) (fun t => B (j0 + t)) ((i1 - i0 : Nat) : Int) ((j1 - j0 : Nat) : Int)

/-- lines alike at the head -/
theorem dist_left {A B : Nat → Int} {i0 i1 j0 j1 l : Nat} (hi : i0 + l ≤ i1) (hj : j0 + l ≤ j1) (e : ∀ t, t < l → A (i0 + t) = B (j0 + t)) : dist A B i0 i1 j0 j1 = dist A B (i0 + l) i1 (j0 + l) j1 := by
  unfold dist
  have h1 := e_start (a := fun t => A (i0 + t)) (b := fun t => B (j0 + t)) (n := i1 - i0) (m := j1 - j0)
  have h2 := e_run (a := fun t => A (i0 + t)) (b := fun t => B (j0 + t)) (n := i1 - i0) (m := j1 - j0) (k := 0) l 0 l (by omega) (by omega) (by omega) (by omega) (by omega) (by omega) (by
    intro i h0 h1
    obtain ⟨t, rfl⟩ := Int.eq_ofNat_of_zero_le h0
    simpa using e t (by omega))
  have h3 := tail_e (fun t => A (i0 + t)) (fun t => B (j0 + t)) (i1 - i0) (j1 - j0) l l (by omega) (by omega)
  unfold D at h1
  have eA : (fun t => A (i0 + l + t)) = fun i => (fun t => A (i0 + t)) (l + i) := funext fun t => by show A _ = A _; rw [Nat.add_assoc]
  have eB : (fun t => B (j0 + l + t)) = fun i => (fun t => B (j0 + t)) (l + i) := funext fun t => by show B _ = B _; rw [Nat.add_assoc]
  rw [eA, eB, show i1 - (i0 + l) = i1 - i0 - l by omega, show j1 - (j0 + l) = j1 - j0 - l by omega, h3, ← h1]
  simp only [Int.sub_zero] at h2
  first | exact h2 | exact h2.symm
/-- lines alike at the foot -/
theorem dist_right {A B : Nat → Int} {i0 i1 j0 j1 r : Nat} (hi : i0 + r ≤ i1) (hj : j0 + r ≤ j1) (e : ∀ t, t < r → A (i1 - r + t) = B (j1 - r + t)) : dist A B i0 i1 j0 j1 = dist A B i0 (i1 - r) j0 (j1 - r) := by
  induction r with
  | zero => rfl
  | succ r ih =>
    have h0 := ih (by omega) (by omega) (fun t ht => by have := e (t + 1) (by omega); rwa [show i1 - (r + 1) + (t + 1) = i1 - r + t by omega, show j1 - (r + 1) + (t + 1) = j1 - r + t by omega] at this)
    rw [h0]
    unfold dist
    have h1 := d_match (fun t => A (i0 + t)) (fun t => B (j0 + t)) (x := ((i1 - (r + 1) - i0 : Nat) : Int)) (y := ((j1 - (r + 1) - j0 : Nat) : Int)) (by omega) (by omega) (by
      have := e 0 (by omega)
      simp only [Int.toNat_natCast]
      rw [show i0 + (i1 - (r + 1) - i0) = i1 - (r + 1) + 0 by omega, show j0 + (j1 - (r + 1) - j0) = j1 - (r + 1) + 0 by omega]; exact this)
    rw [← h1]
    congr 1 <;> omega

/-- three stretches, the outer two (or the middle one) alike and unmarked -/
theorem seg3 {A : Nat → Int} {g : Nat → Bool} {i0 p u i1 : Nat} (h1 : i0 ≤ p) (h2 : p ≤ u) (h3 : u ≤ i1) : K A g i0 (i1 - i0) = K A g i0 (p - i0) ++ (K A g p (u - p) ++ K A g u (i1 - u)) ∧ C g i0 (i1 - i0) = C g i0 (p - i0) + (C g p (u - p) + C g u (i1 - u)) := by
  have e1 : i1 - i0 = (p - i0) + ((u - p) + (i1 - u)) := by omega
  rw [e1, K_add, K_add, C_add, C_add, show i0 + (p - i0) = p by omega, show p + (u - p) = u by omega]
  exact ⟨rfl, rfl⟩

theorem bud1 {N n x : Nat} {s s' : Int} (hs : 5000000000 * (N : Int) ≤ s) (hN : n ≤ N) (cost : s - 5000000000 ≤ s') (h : x + 1 ≤ n) : 5000000000 * (x : Int) ≤ s' := by omega
theorem bud2 {N n x y : Nat} {s s' s1 : Int} (hs : 5000000000 * (N : Int) ≤ s) (hN : n ≤ N) (cost : s - 5000000000 ≤ s') (c1 : s' - 5000000000 * ((x - 1 : Nat) : Int) ≤ s1) (h : x + y ≤ n) (h2 : y + 1 ≤ n) : 5000000000 * (y : Int) ≤ s1 := by omega
theorem bud3 {N n x y : Nat} {s s' s1 s2 : Int} (hN : n ≤ N) (cost : s - 5000000000 ≤ s') (c1 : s' - 5000000000 * ((x - 1 : Nat) : Int) ≤ s1) (c2 : s1 - 5000000000 * ((y - 1 : Nat) : Int) ≤ s2) (h : x + y ≤ n) (h1 : x + 1 ≤ n) (h2 : y + 1 ≤ n) (h3 : 2 ≤ n) : s - 5000000000 * ((N - 1 : Nat) : Int) ≤ s2 := by omega

set_option maxHeartbeats 4000000 in
theorem cmp_script (A B : Nat → Int) (f : Nat) : ∀ (i0 i1 j0 j1 : Nat) (dl il : Nat → Bool) (s : Int), i0 ≤ i1 → j0 ≤ j1 → i1 ≤ 1024 → j1 ≤ 1024 → (i1 - i0) + (j1 - j0) < f → 5000000000 * (((i1 - i0) + (j1 - j0) : Nat) : Int) ≤ s →
    (∀ i, i0 ≤ i → i < i1 → dl i = false) → (∀ j, j0 ≤ j → j < j1 → il j = false) →
    ∃ dl' il' s', cmp A B f i0 i1 j0 j1 (dl, il, s) = (true, dl', il', s') ∧ s - 5000000000 * (((i1 - i0) + (j1 - j0) - 1 : Nat) : Int) ≤ s' ∧ (∀ i, i < i0 ∨ i1 ≤ i → dl' i = dl i) ∧ (∀ j, j < j0 ∨ j1 ≤ j → il' j = il j) ∧
      K A dl' i0 (i1 - i0) = K B il' j0 (j1 - j0) ∧ ((C dl' i0 (i1 - i0) : Nat) : Int) + ((C il' j0 (j1 - j0) : Nat) : Int) = dist A B i0 i1 j0 j1 := by
  induction f with
  | zero => intro i0 i1 j0 j1 dl il s _ _ _ _ h; omega
  | succ f ih =>
    intro i0 i1 j0 j1 dl il s hi hj hi1 hj1 hf hs od oi
    obtain ⟨p, q, u, v, h1, h2, T⟩ := trim_spec A B i0 i1 j0 j1 hi hj
    obtain ⟨tp0, tpu, tu1, tq0, tqv, tv1, tl, tr, tml, tmr, tne, tnr⟩ := T
    have hd : dist A B i0 i1 j0 j1 = dist A B p u q v := by
      rw [dist_left (l := p - i0) (by omega) (by omega) tml, show i0 + (p - i0) = p by omega, show j0 + (p - i0) = q by omega,
        dist_right (r := i1 - u) (by omega) (by omega) (fun t ht => by rw [show i1 - (i1 - u) = u by omega, show j1 - (i1 - u) = v by omega]; exact tmr t ht), show i1 - (i1 - u) = u by omega, show j1 - (i1 - u) = v by omega]
    have glue : ∀ dl' il' : Nat → Bool, (∀ i, i < p ∨ u ≤ i → dl' i = dl i) → (∀ j, j < q ∨ v ≤ j → il' j = il j) → K A dl' p (u - p) = K B il' q (v - q) → ((C dl' p (u - p) : Nat) : Int) + ((C il' q (v - q) : Nat) : Int) = dist A B p u q v →
        (∀ i, i < i0 ∨ i1 ≤ i → dl' i = dl i) ∧ (∀ j, j < j0 ∨ j1 ≤ j → il' j = il j) ∧ K A dl' i0 (i1 - i0) = K B il' j0 (j1 - j0) ∧ ((C dl' i0 (i1 - i0) : Nat) : Int) + ((C il' j0 (j1 - j0) : Nat) : Int) = dist A B i0 i1 j0 j1 := by
      intro dl' il' k1 k2 k3 k4
      have o1 : ∀ t, t < p - i0 → dl' (i0 + t) = false := fun t ht => by rw [k1 _ (by omega)]; exact od _ (by omega) (by omega)
      have o2 : ∀ t, t < i1 - u → dl' (u + t) = false := fun t ht => by rw [k1 _ (by omega)]; exact od _ (by omega) (by omega)
      have o3 : ∀ t, t < q - j0 → il' (j0 + t) = false := fun t ht => by rw [k2 _ (by omega)]; exact oi _ (by omega) (by omega)
      have o4 : ∀ t, t < j1 - v → il' (v + t) = false := fun t ht => by rw [k2 _ (by omega)]; exact oi _ (by omega) (by omega)
      obtain ⟨s1, s2⟩ := seg3 (A := A) (g := dl') tp0 tpu tu1
      obtain ⟨s3, s4⟩ := seg3 (A := B) (g := il') tq0 tqv tv1
      refine ⟨fun i h => k1 i (by omega), fun j h => k2 j (by omega), ?_, ?_⟩
      · rw [s1, s3, k3, ← tl, ← tr, K_match (p - i0) tml o1 (fun t ht => o3 t (by omega)), K_match (i1 - u) tmr o2 (fun t ht => o4 t (by omega))]
      · rw [s2, s4, hd, ← k4, C_off _ o1, C_off _ o2, C_off _ o3, C_off _ o4]; omega
    rw [cmp_step A B f i0 i1 j0 j1 (dl, il, s) h1 h2]
    by_cases he : p = u ∨ q = v
    · rw [if_pos he]
      refine ⟨mk dl p u, mk il q v, s, rfl, by omega, glue _ _ ?_ ?_ ?_ ?_⟩
      · intro i h; unfold mk; have : (decide (p ≤ i) && decide (i < u)) = false := by simp; omega
        rw [this]; simp
      · intro j h; unfold mk; have : (decide (q ≤ j) && decide (j < v)) = false := by simp; omega
        rw [this]; simp
      · rw [K_on, K_on]
        · intro t ht; unfold mk; simp; right; omega
        · intro t ht; unfold mk; simp; right; omega
      · rw [C_on, C_on]
        · unfold dist; rw [d_nat]
          rcases he with x | x
          · rw [show u - p = 0 by omega, L_zero]; omega
          · rw [show v - q = 0 by omega, L_zero']; omega
        · intro t ht; unfold mk; simp; right; omega
        · intro t ht; unfold mk; simp; right; omega
    · rw [if_neg he]
      have hpu : p < u := by omega
      have hqv : q < v := by omega
      rcases core_cases A B (cmp A B f) dl il s hpu hqv (tne hpu hqv) (tnr hpu hqv) with ⟨s', hm, hneg, _⟩ | ⟨r, s', hm, hg, hsp, hs1, hc⟩
      · have := ms_cost (fun i => A (p + i)) (fun j => B (q + j)) (u - p) (v - q) (by omega) (by omega) s
        rw [hm] at this
        simp only [] at this
        omega
      · have cost := ms_cost (fun i => A (p + i)) (fun j => B (q + j)) (u - p) (v - q) (by omega) (by omega) s
        rw [hm] at cost
        simp only [] at cost
        obtain ⟨x0, y0, x1, y1⟩ := r
        obtain ⟨g1, g2, g3, g4, g5, g6, g7, g8, g9, g10⟩ := hg
        simp only [] at g1 g2 g3 g4 g5 g6 g7 g8 g9 hsp hc
        obtain ⟨x0, rfl⟩ := Int.eq_ofNat_of_zero_le g1
        obtain ⟨y0, rfl⟩ := Int.eq_ofNat_of_zero_le g4
        obtain ⟨x1, rfl⟩ := Int.eq_ofNat_of_zero_le (show 0 ≤ x1 by omega)
        obtain ⟨y1, rfl⟩ := Int.eq_ofNat_of_zero_le (show 0 ≤ y1 by omega)
        simp only [Int.toNat_natCast] at hc
        have hsz1 : x0 + y0 + 1 ≤ (u - p) + (v - q) := by omega
        have hsz2 : 1 ≤ x1 + y1 := by omega
        obtain ⟨dl1, il1, s1, e1, c1, n1, m1, k1, t1⟩ := ih p (p + x0) q (q + y0) dl il s' (by omega) (by omega) (by omega) (by omega) (by omega) (bud1 hs (n := (u - p) + (v - q)) (by omega) cost (by omega)) (fun i a b => od i (by omega) (by omega)) (fun j a b => oi j (by omega) (by omega))
        obtain ⟨dl2, il2, s2, e2, c2, n2, m2, k2, t2⟩ := ih (p + x1) u (q + y1) v dl1 il1 s1 (by omega) (by omega) (by omega) (by omega) (by omega) (bud2 hs (n := (u - p) + (v - q)) (by omega) cost c1 (by omega) (by omega)) (fun i a b => by rw [n1 i (by omega)]; exact od i (by omega) (by omega)) (fun j a b => by rw [m1 j (by omega)]; exact oi j (by omega) (by omega))
        have s5 := seg3 (A := A) (g := dl2) (i0 := p) (p := p + x0) (u := p + x1) (i1 := u) (by omega) (by omega) (by omega)
        have s6 := seg3 (A := B) (g := il2) (i0 := q) (p := q + y0) (u := q + y1) (i1 := v) (by omega) (by omega) (by omega)
        have offA : ∀ t, t < p + x1 - (p + x0) → dl2 (p + x0 + t) = false := fun t ht => by rw [n2 _ (by omega), n1 _ (by omega)]; exact od _ (by omega) (by omega)
        have offB : ∀ t, t < q + y1 - (q + y0) → il2 (q + y0 + t) = false := fun t ht => by rw [m2 _ (by omega), m1 _ (by omega)]; exact oi _ (by omega) (by omega)
        have snake : ∀ t, t < p + x1 - (p + x0) → A (p + x0 + t) = B (q + y0 + t) := fun t ht => by
          have := g8 t (by omega) (by omega)
          rw [show ((x0 : Int) + (t : Int)).toNat = x0 + t by omega, show ((y0 : Int) + (t : Int)).toNat = y0 + t by omega] at this
          rw [Nat.add_assoc, Nat.add_assoc]; exact this
        have hw : dist A B p u q v = dist A B p (p + x0) q (q + y0) + dist A B (p + x1) u (q + y1) v := by
          have ht := tail_e (fun i => A (p + i)) (fun j => B (q + j)) (u - p) (v - q) x1 y1 (by omega) (by omega)
          unfold D at g9
          rw [← ht] at g9
          have eA : (fun t => A (p + x1 + t)) = fun i => (fun t => A (p + t)) (x1 + i) := funext fun t => by show A _ = A _; rw [Nat.add_assoc]
          have eB : (fun t => B (q + y1 + t)) = fun i => (fun t => B (q + t)) (y1 + i) := funext fun t => by show B _ = B _; rw [Nat.add_assoc]
          unfold dist
          rw [eA, eB, show u - (p + x1) = u - p - x1 by omega, show v - (q + y1) = v - q - y1 by omega, show p + x0 - p = x0 by omega, show q + y0 - q = y0 by omega]
          exact g9.symm
        rw [hc, e1]
        simp only []
        refine ⟨dl2, il2, s2, e2, bud3 (n := (u - p) + (v - q)) (by omega) cost c1 c2 (by omega) (by omega) (by omega) (by omega), glue dl2 il2 (fun i h => by rw [n2 i (by omega), n1 i (by omega)]) (fun j h => by rw [m2 j (by omega), m1 j (by omega)]) ?_ ?_⟩
        · rw [s5.1, s6.1, K_congr (g := dl2) (h := dl1) (p + x0 - p) (fun t ht => n2 _ (by omega)), K_congr (g := il2) (h := il1) (q + y0 - q) (fun t ht => m2 _ (by omega)), k1, k2, K_match (B := B) (h := il2) (j := q + y0) (p + x1 - (p + x0)) snake offA (fun t ht => offB t (by omega)), show q + y1 - (q + y0) = p + x1 - (p + x0) by omega]
        · rw [s5.2, s6.2, C_congr (g := dl2) (h := dl1) (p + x0 - p) (fun t ht => n2 _ (by omega)), C_congr (g := il2) (h := il1) (q + y0 - q) (fun t ht => m2 _ (by omega)), C_off _ offA, C_off _ offB, hw]
          omega
end Go.Proofs.Qxb6601687a.My
