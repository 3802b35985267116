namespace Go.Proofs.Qxb6601687a.My

def row (b : Nat → Int) (ax : Int) (prev : Nat → Nat) : Nat → Nat
  | 0 => 0
  | y + 1 => if ax = b y then prev y + 1 else max (prev (y + 1)) (row b ax prev y)

def L (a b : Nat → Int) : Nat → Nat → Nat
  | 0 => fun _ => 0
  | x + 1 => row b (a x) (L a b x)

theorem L_zero (a b : Nat → Int) (y : Nat) : L a b 0 y = 0 := rfl
theorem L_zero' (a b : Nat → Int) (x : Nat) : L a b x 0 = 0 := by cases x <;> rfl
theorem L_succ (a b : Nat → Int) (x y : Nat) : L a b (x + 1) (y + 1) = if a x = b y then L a b x y + 1 else max (L a b x (y + 1)) (L a b (x + 1) y) := rfl

theorem L_steps (a b : Nat → Int) (x : Nat) : (∀ y, L a b x y ≤ L a b x (y + 1) ∧ L a b x (y + 1) ≤ L a b x y + 1) ∧ ∀ y, L a b x y ≤ L a b (x + 1) y ∧ L a b (x + 1) y ≤ L a b x y + 1 := by
  have key : ∀ x, (∀ y, L a b x y ≤ L a b x (y + 1) ∧ L a b x (y + 1) ≤ L a b x y + 1) →
      ∀ y, (L a b x y ≤ L a b (x + 1) y ∧ L a b (x + 1) y ≤ L a b x y + 1) ∧ (L a b (x + 1) y ≤ L a b (x + 1) (y + 1) ∧ L a b (x + 1) (y + 1) ≤ L a b (x + 1) y + 1) := by
    intro x hS y
    induction y with
    | zero =>
      have h1 := hS 0
      simp only [L_zero', L_succ] at *
      split <;> simp_all <;> omega
    | succ y ih =>
      have h1 := hS y
      have h2 := hS (y + 1)
      have e1 := L_succ a b x y
      have e2 := L_succ a b x (y + 1)
      split at e1 <;> split at e2 <;> omega
  have S : ∀ x y, L a b x y ≤ L a b x (y + 1) ∧ L a b x (y + 1) ≤ L a b x y + 1 := by
    intro x
    induction x with
    | zero => intro y; simp [L_zero]
    | succ x ih => exact fun y => (key x ih y).2
  exact ⟨S x, fun y => (key x (S x) y).1⟩

theorem L_diag (a b : Nat → Int) (x y : Nat) : L a b x y ≤ L a b (x + 1) (y + 1) ∧ L a b (x + 1) (y + 1) ≤ L a b x y + 1 := by
  have h1 := (L_steps a b x).1 y
  have h2 := (L_steps a b x).2 y
  have h3 := (L_steps a b x).2 (y + 1)
  have e := L_succ a b x y
  split at e <;> omega

theorem L_le (a b : Nat → Int) (x y : Nat) : L a b x y ≤ x ∧ L a b x y ≤ y := by
  constructor
  · induction x with
    | zero => simp [L_zero]
    | succ x ih => have := (L_steps a b x).2 y; omega
  · induction y with
    | zero => simp [L_zero']
    | succ y ih => have := (L_steps a b x).1 y; omega

theorem row_congr {b b' : Nat → Int} {ax ax' : Int} {p p' : Nat → Nat} (hax : ax = ax') (y : Nat) (hb : ∀ j, j < y → b j = b' j) (hp : ∀ j, j ≤ y → p j = p' j) : row b ax p y = row b' ax' p' y := by
  subst hax
  induction y with
  | zero => rfl
  | succ y ih =>
    simp only [row]
    rw [hb y (by omega), hp y (by omega), hp (y + 1) (by omega), ih (fun j hj => hb j (by omega)) (fun j hj => hp j (by omega))]

theorem L_congr {a a' b b' : Nat → Int} (x : Nat) : ∀ y, (∀ i, i < x → a i = a' i) → (∀ j, j < y → b j = b' j) → L a b x y = L a' b' x y := by
  induction x with
  | zero => intros; rfl
  | succ x ih =>
    intro y ha hb
    exact row_congr (ha x (by omega)) y hb (fun j hj => ih j (fun i hi => ha i (by omega)) (fun i hi => hb i (by omega)))

/-- the distance of the first x lines of a and the first y of b -/
def d (a b : Nat → Int) (x y : Int) : Int := x + y - 2 * (L a b x.toNat y.toNat : Int)

section
variable (a b : Nat → Int)

theorem d_nat (x y : Nat) : d a b x y = x + y - 2 * (L a b x y : Int) := by simp [d]

theorem d_zero : d a b 0 0 = 0 := by simp [d, L_zero]

theorem d_right {x y : Int} (hx : 0 ≤ x) (hy : 0 ≤ y) : d a b (x + 1) y ≤ d a b x y + 1 ∧ d a b x y ≤ d a b (x + 1) y + 1 := by
  obtain ⟨x, rfl⟩ := Int.eq_ofNat_of_zero_le hx
  obtain ⟨y, rfl⟩ := Int.eq_ofNat_of_zero_le hy
  have h := (L_steps a b x).2 y
  have e := d_nat a b (x + 1) y
  have e' := d_nat a b x y
  simp only [Int.natCast_add, Int.cast_ofNat_Int] at e
  omega

theorem d_down {x y : Int} (hx : 0 ≤ x) (hy : 0 ≤ y) : d a b x (y + 1) ≤ d a b x y + 1 ∧ d a b x y ≤ d a b x (y + 1) + 1 := by
  obtain ⟨x, rfl⟩ := Int.eq_ofNat_of_zero_le hx
  obtain ⟨y, rfl⟩ := Int.eq_ofNat_of_zero_le hy
  have h := (L_steps a b x).1 y
  have e := d_nat a b x (y + 1)
  have e' := d_nat a b x y
  simp only [Int.natCast_add, Int.cast_ofNat_Int] at e
  omega

theorem d_diag {x y : Int} (hx : 0 ≤ x) (hy : 0 ≤ y) : d a b x y ≤ d a b (x + 1) (y + 1) := by
  obtain ⟨x, rfl⟩ := Int.eq_ofNat_of_zero_le hx
  obtain ⟨y, rfl⟩ := Int.eq_ofNat_of_zero_le hy
  have h := L_diag a b x y
  have e := d_nat a b (x + 1) (y + 1)
  have e' := d_nat a b x y
  simp only [Int.natCast_add, Int.cast_ofNat_Int] at e
  omega

theorem d_match {x y : Int} (hx : 0 ≤ x) (hy : 0 ≤ y) (h : a x.toNat = b y.toNat) : d a b (x + 1) (y + 1) = d a b x y := by
  obtain ⟨x, rfl⟩ := Int.eq_ofNat_of_zero_le hx
  obtain ⟨y, rfl⟩ := Int.eq_ofNat_of_zero_le hy
  have e := d_nat a b (x + 1) (y + 1)
  have e' := d_nat a b x y
  have h' := L_succ a b x y
  simp only [Int.toNat_natCast] at h
  rw [if_pos h] at h'
  simp only [Int.natCast_add, Int.cast_ofNat_Int] at e
  omega

/-- a point that is not the corner has a point ahead of it on a shortest path -/
theorem d_pred {x y : Int} (hx : 0 ≤ x) (hy : 0 ≤ y) (h : 0 < x ∨ 0 < y) :
    (0 < x ∧ 0 < y ∧ a (x - 1).toNat = b (y - 1).toNat ∧ d a b (x - 1) (y - 1) = d a b x y) ∨
    (0 < x ∧ d a b (x - 1) y = d a b x y - 1) ∨ (0 < y ∧ d a b x (y - 1) = d a b x y - 1) := by
  obtain ⟨x, rfl⟩ := Int.eq_ofNat_of_zero_le hx
  obtain ⟨y, rfl⟩ := Int.eq_ofNat_of_zero_le hy
  have e' := d_nat a b x y
  cases x with
  | zero =>
    cases y with
    | zero => omega
    | succ y =>
      refine .inr (.inr ⟨by omega, ?_⟩)
      have e := d_nat a b 0 y
      rw [show ((y + 1 : Nat) : Int) - 1 = (y : Int) by omega]
      simp only [L_zero] at e e'
      omega
  | succ x =>
    cases y with
    | zero =>
      refine .inr (.inl ⟨by omega, ?_⟩)
      have e := d_nat a b x 0
      rw [show ((x + 1 : Nat) : Int) - 1 = (x : Int) by omega]
      simp only [L_zero'] at e e'
      omega
    | succ y =>
      rw [show ((x + 1 : Nat) : Int) - 1 = (x : Int) by omega, show ((y + 1 : Nat) : Int) - 1 = (y : Int) by omega]
      simp only [Int.toNat_natCast]
      have h' := L_succ a b x y
      have e1 := d_nat a b x y
      have e2 := d_nat a b x (y + 1)
      have e3 := d_nat a b (x + 1) y
      by_cases hm : a x = b y
      · rw [if_pos hm] at h'
        exact .inl ⟨by omega, by omega, hm, by omega⟩
      · rw [if_neg hm] at h'
        rcases Nat.le_total (L a b x (y + 1)) (L a b (x + 1) y) with hle | hle
        · exact .inr (.inr ⟨by omega, by omega⟩)
        · exact .inr (.inl ⟨by omega, by omega⟩)

theorem d_bound {x y : Int} (hx : 0 ≤ x) (hy : 0 ≤ y) : x - y ≤ d a b x y ∧ y - x ≤ d a b x y ∧ d a b x y ≤ x + y := by
  obtain ⟨x, rfl⟩ := Int.eq_ofNat_of_zero_le hx
  obtain ⟨y, rfl⟩ := Int.eq_ofNat_of_zero_le hy
  have e' := d_nat a b x y
  have h := L_le a b x y
  omega

theorem d_parity (x y : Int) : (d a b x y - (x - y)) % 2 = 0 := by unfold d; omega

theorem d_zero_match (x : Nat) : ∀ y : Nat, d a b x y = 0 → x = y ∧ ∀ i, i < x → a i = b i := by
  induction x with
  | zero => intro y h; have := d_bound a b (x := (0 : Nat)) (y := y) (by omega) (by omega); exact ⟨by omega, by omega⟩
  | succ x ih =>
    intro y h
    have hb := d_bound a b (x := (x + 1 : Nat)) (y := y) (by omega) (by omega)
    have hxy : x + 1 = y := by omega
    subst hxy
    rcases d_pred a b (x := (x + 1 : Nat)) (y := (x + 1 : Nat)) (by omega) (by omega) (.inl (by omega)) with ⟨_, _, hm, hd⟩ | ⟨_, hd⟩ | ⟨_, hd⟩
    · rw [show ((x + 1 : Nat) : Int) - 1 = (x : Int) by omega] at hm hd
      rw [h] at hd
      have := (ih x hd).2
      refine ⟨rfl, fun i hi => ?_⟩
      rcases Nat.lt_or_ge i x with hlt | hge
      · exact this i hlt
      · obtain rfl : i = x := by omega
        simpa using hm
    · have := d_bound a b (x := ((x + 1 : Nat) : Int) - 1) (y := (x + 1 : Nat)) (by omega) (by omega); omega
    · have := d_bound a b (x := ((x + 1 : Nat) : Int)) (y := ((x + 1 : Nat) : Int) - 1) (by omega) (by omega); omega
end


/-- the distance of what lies behind the first x lines of a (n lines) and behind the first y of b (m lines) -/
def e (a b : Nat → Int) (n m : Nat) (x y : Int) : Int := d (fun i => a (n - 1 - i)) (fun j => b (m - 1 - j)) (n - x) (m - y)

section
variable (a b : Nat → Int) (n m : Nat)

theorem e_end : e a b n m n m = 0 := by
  unfold e; rw [Int.sub_self, Int.sub_self]; exact d_zero _ _

theorem e_left {x y : Int} (hx : x ≤ n) (hy : y ≤ m) : e a b n m (x - 1) y ≤ e a b n m x y + 1 ∧ e a b n m x y ≤ e a b n m (x - 1) y + 1 := by
  unfold e
  have := d_right (fun i => a (n - 1 - i)) (fun j => b (m - 1 - j)) (x := n - x) (y := m - y) (by omega) (by omega)
  rw [show (n : Int) - (x - 1) = n - x + 1 by omega]
  exact this

theorem e_up {x y : Int} (hx : x ≤ n) (hy : y ≤ m) : e a b n m x (y - 1) ≤ e a b n m x y + 1 ∧ e a b n m x y ≤ e a b n m x (y - 1) + 1 := by
  unfold e
  have := d_down (fun i => a (n - 1 - i)) (fun j => b (m - 1 - j)) (x := n - x) (y := m - y) (by omega) (by omega)
  rw [show (m : Int) - (y - 1) = m - y + 1 by omega]
  exact this

theorem e_diag {x y : Int} (hx : x ≤ n) (hy : y ≤ m) : e a b n m x y ≤ e a b n m (x - 1) (y - 1) := by
  unfold e
  have := d_diag (fun i => a (n - 1 - i)) (fun j => b (m - 1 - j)) (x := n - x) (y := m - y) (by omega) (by omega)
  rw [show (n : Int) - (x - 1) = n - x + 1 by omega, show (m : Int) - (y - 1) = m - y + 1 by omega]
  exact this

theorem e_match {x y : Int} (hx : 0 < x) (hy : 0 < y) (hxn : x ≤ n) (hym : y ≤ m) (h : a (x - 1).toNat = b (y - 1).toNat) : e a b n m (x - 1) (y - 1) = e a b n m x y := by
  unfold e
  have := d_match (fun i => a (n - 1 - i)) (fun j => b (m - 1 - j)) (x := n - x) (y := m - y) (by omega) (by omega) (by
    show a (n - 1 - (n - x).toNat) = b (m - 1 - (m - y).toNat)
    rw [show n - 1 - ((n : Int) - x).toNat = (x - 1).toNat by omega, show m - 1 - ((m : Int) - y).toNat = (y - 1).toNat by omega]
    exact h)
  rw [show (n : Int) - (x - 1) = n - x + 1 by omega, show (m : Int) - (y - 1) = m - y + 1 by omega]
  exact this

theorem e_succ {x y : Int} (hx : 0 ≤ x) (hy : 0 ≤ y) (hxn : x ≤ n) (hym : y ≤ m) (h : x < n ∨ y < m) :
    (x < n ∧ y < m ∧ a x.toNat = b y.toNat ∧ e a b n m (x + 1) (y + 1) = e a b n m x y) ∨
    (x < n ∧ e a b n m (x + 1) y = e a b n m x y - 1) ∨ (y < m ∧ e a b n m x (y + 1) = e a b n m x y - 1) := by
  unfold e
  rcases d_pred (fun i => a (n - 1 - i)) (fun j => b (m - 1 - j)) (x := n - x) (y := m - y) (by omega) (by omega) (by omega) with ⟨h1, h2, hm, hd⟩ | ⟨h1, hd⟩ | ⟨h1, hd⟩
  · refine .inl ⟨by omega, by omega, ?_, ?_⟩
    · have hm' : a (n - 1 - ((n : Int) - x - 1).toNat) = b (m - 1 - ((m : Int) - y - 1).toNat) := hm
      rw [show n - 1 - ((n : Int) - x - 1).toNat = x.toNat by omega, show m - 1 - ((m : Int) - y - 1).toNat = y.toNat by omega] at hm'
      exact hm'
    · rw [show (n : Int) - (x + 1) = n - x - 1 by omega, show (m : Int) - (y + 1) = m - y - 1 by omega]; exact hd
  · refine .inr (.inl ⟨by omega, ?_⟩)
    rw [show (n : Int) - (x + 1) = n - x - 1 by omega]; exact hd
  · refine .inr (.inr ⟨by omega, ?_⟩)
    rw [show (m : Int) - (y + 1) = m - y - 1 by omega]; exact hd

theorem e_bound {x y : Int} (hxn : x ≤ n) (hym : y ≤ m) : (n - x) - (m - y) ≤ e a b n m x y ∧ (m - y) - (n - x) ≤ e a b n m x y ∧ e a b n m x y ≤ (n - x) + (m - y) := by
  unfold e
  exact d_bound _ _ (by omega) (by omega)

theorem e_parity (x y : Int) : (e a b n m x y - ((n - x) - (m - y))) % 2 = 0 := d_parity _ _ _ _

/-- the whole distance -/
def D : Int := d a b n m

theorem triangle (j : Nat) : ∀ x y : Int, 0 ≤ x → 0 ≤ y → x ≤ n → y ≤ m → (n - x) + (m - y) ≤ j → D a b n m ≤ d a b x y + e a b n m x y := by
  induction j with
  | zero =>
    intro x y hx hy hxn hym hj
    obtain rfl : x = n := by omega
    obtain rfl : y = m := by omega
    rw [e_end, D]; omega
  | succ j ih =>
    intro x y hx hy hxn hym hj
    by_cases hend : x < n ∨ y < m
    · rcases e_succ a b n m hx hy hxn hym hend with ⟨h1, h2, hm, he⟩ | ⟨h1, he⟩ | ⟨h1, he⟩
      · have := ih (x + 1) (y + 1) (by omega) (by omega) (by omega) (by omega) (by omega)
        have := d_match a b hx hy hm
        omega
      · have := ih (x + 1) y (by omega) (by omega) (by omega) (by omega) (by omega)
        have := d_right a b hx hy
        omega
      · have := ih x (y + 1) (by omega) (by omega) (by omega) (by omega) (by omega)
        have := d_down a b hx hy
        omega
    · obtain rfl : x = n := by omega
      obtain rfl : y = m := by omega
      rw [e_end, D]; omega

theorem tri {x y : Int} (hx : 0 ≤ x) (hy : 0 ≤ y) (hxn : x ≤ n) (hym : y ≤ m) : D a b n m ≤ d a b x y + e a b n m x y :=
  triangle a b n m (((n - x) + (m - y)).toNat) x y hx hy hxn hym (by omega)

/-- a point of a shortest path -/
structure Opt (x y : Int) : Prop where
  x0 : 0 ≤ x
  y0 : 0 ≤ y
  xn : x ≤ n
  ym : y ≤ m
  eq : d a b x y + e a b n m x y = D a b n m

theorem opt_end : Opt a b n m n m := ⟨by omega, by omega, by omega, by omega, by rw [e_end, D]; omega⟩

variable {a b n m}

theorem Opt.pred {x y : Int} (h : Opt a b n m x y) (hp : 0 < x ∨ 0 < y) :
    (0 < x ∧ 0 < y ∧ a (x - 1).toNat = b (y - 1).toNat ∧ Opt a b n m (x - 1) (y - 1) ∧ d a b (x - 1) (y - 1) = d a b x y) ∨
    (0 < x ∧ Opt a b n m (x - 1) y ∧ d a b (x - 1) y = d a b x y - 1) ∨ (0 < y ∧ Opt a b n m x (y - 1) ∧ d a b x (y - 1) = d a b x y - 1) := by
  obtain ⟨hx, hy, hxn, hym, heq⟩ := h
  rcases d_pred a b hx hy hp with ⟨h1, h2, hm, hd⟩ | ⟨h1, hd⟩ | ⟨h1, hd⟩
  · have he := e_match a b n m h1 h2 hxn hym hm
    exact .inl ⟨h1, h2, hm, ⟨by omega, by omega, by omega, by omega, by omega⟩, hd⟩
  · have he := e_left a b n m hxn hym
    have ht := tri a b n m (x := x - 1) (y := y) (by omega) hy (by omega) hym
    exact .inr (.inl ⟨h1, ⟨by omega, by omega, by omega, by omega, by omega⟩, hd⟩)
  · have he := e_up a b n m hxn hym
    have ht := tri a b n m (x := x) (y := y - 1) hx (by omega) hxn (by omega)
    exact .inr (.inr ⟨h1, ⟨by omega, by omega, by omega, by omega, by omega⟩, hd⟩)

theorem Opt.succ {x y : Int} (h : Opt a b n m x y) (hp : x < n ∨ y < m) :
    (x < n ∧ y < m ∧ a x.toNat = b y.toNat ∧ Opt a b n m (x + 1) (y + 1) ∧ e a b n m (x + 1) (y + 1) = e a b n m x y) ∨
    (x < n ∧ Opt a b n m (x + 1) y ∧ e a b n m (x + 1) y = e a b n m x y - 1) ∨ (y < m ∧ Opt a b n m x (y + 1) ∧ e a b n m x (y + 1) = e a b n m x y - 1) := by
  obtain ⟨hx, hy, hxn, hym, heq⟩ := h
  rcases e_succ a b n m hx hy hxn hym hp with ⟨h1, h2, hm, he⟩ | ⟨h1, he⟩ | ⟨h1, he⟩
  · have hd := d_match a b hx hy hm
    exact .inl ⟨h1, h2, hm, ⟨by omega, by omega, by omega, by omega, by omega⟩, he⟩
  · have hd := d_right a b hx hy
    have ht := tri a b n m (x := x + 1) (y := y) (by omega) hy (by omega) hym
    exact .inr (.inl ⟨h1, ⟨by omega, by omega, by omega, by omega, by omega⟩, he⟩)
  · have hd := d_down a b hx hy
    have ht := tri a b n m (x := x) (y := y + 1) hx (by omega) hxn (by omega)
    exact .inr (.inr ⟨h1, ⟨by omega, by omega, by omega, by omega, by omega⟩, he⟩)

theorem Opt.back (c : Int) (hc : 0 ≤ c) (j : Nat) : ∀ x y : Int, Opt a b n m x y → c ≤ d a b x y → x + y ≤ j → ∃ x' y', Opt a b n m x' y' ∧ d a b x' y' = c := by
  induction j with
  | zero =>
    intro x y h hd hj
    obtain rfl : x = 0 := by have := h.x0; have := h.y0; omega
    obtain rfl : y = 0 := by have := h.y0; omega
    have := d_zero a b
    exact ⟨_, _, h, by omega⟩
  | succ j ih =>
    intro x y h hd hj
    by_cases he : d a b x y = c
    · exact ⟨_, _, h, he⟩
    · have hp : 0 < x ∨ 0 < y := by
        rcases Int.lt_or_le 0 x with h1 | h1
        · exact .inl h1
        · rcases Int.lt_or_le 0 y with h2 | h2
          · exact .inr h2
          · obtain rfl : x = 0 := by have := h.x0; omega
            obtain rfl : y = 0 := by have := h.y0; omega
            have := d_zero a b
            omega
      rcases h.pred hp with ⟨h1, h2, _, ho, hd'⟩ | ⟨h1, ho, hd'⟩ | ⟨h1, ho, hd'⟩
      · exact ih _ _ ho (by omega) (by omega)
      · exact ih _ _ ho (by omega) (by omega)
      · exact ih _ _ ho (by omega) (by omega)

/-- on a shortest path every distance is met -/
theorem opt_at (c : Int) (hc : 0 ≤ c) (hD : c ≤ D a b n m) : ∃ x y, Opt a b n m x y ∧ d a b x y = c :=
  Opt.back c hc (n + m) n m (opt_end a b n m) hD (by omega)

theorem opt_start : Opt a b n m 0 0 := by
  obtain ⟨x, y, h, hd⟩ := opt_at (a := a) (b := b) (n := n) (m := m) 0 (by omega) (by have := d_bound a b (x := n) (y := m) (by omega) (by omega); unfold D; omega)
  have key : ∀ (j : Nat) (x y : Int), Opt a b n m x y → d a b x y = 0 → x + y ≤ j → Opt a b n m 0 0 := by
    intro j
    induction j with
    | zero =>
      intro x y h hd hj
      obtain rfl : x = 0 := by have := h.x0; have := h.y0; omega
      obtain rfl : y = 0 := by have := h.y0; omega
      exact h
    | succ j ih =>
      intro x y h hd hj
      by_cases hp : 0 < x ∨ 0 < y
      · rcases h.pred hp with ⟨h1, h2, _, ho, hd'⟩ | ⟨h1, ho, hd'⟩ | ⟨h1, ho, hd'⟩
        · exact ih _ _ ho (by omega) (by omega)
        · have := d_bound a b ho.x0 ho.y0; omega
        · have := d_bound a b ho.x0 ho.y0; omega
      · obtain rfl : x = 0 := by have := h.x0; omega
        obtain rfl : y = 0 := by have := h.y0; omega
        exact h
  exact key (x + y).toNat x y h hd (by omega)

theorem e_start : e a b n m 0 0 = D a b n m := by
  have := opt_start (a := a) (b := b) (n := n) (m := m)
  have h := this.eq
  rw [d_zero] at h
  omega
end


/-! the plain model of the search -/

def snF (a b : Nat → Int) (n m k : Int) : Nat → Int → Int
  | 0, x => x
  | f + 1, x => if x < n ∧ x - k < m ∧ a x.toNat = b (x - k).toNat then snF a b n m k f (x + 1) else x

def snB (a b : Nat → Int) (k : Int) : Nat → Int → Int
  | 0, x => x
  | f + 1, x => if 0 < x ∧ 0 < x - k ∧ a (x - 1).toNat = b (x - k - 1).toNat then snB a b k f (x - 1) else x

def stF (n m c k : Int) (F : Int → Int) : Int :=
  if -c < k ∧ 0 ≤ F (k - 1) ∧ F (k - 1) < n then
    max (if k < c ∧ 0 ≤ F (k + 1) ∧ F (k + 1) - (k + 1) < m then F (k + 1) else if c = 0 then 0 else -1) (F (k - 1) + 1)
  else if k < c ∧ 0 ≤ F (k + 1) ∧ F (k + 1) - (k + 1) < m then F (k + 1) else if c = 0 then 0 else -1

def stB (n m c k : Int) (G : Int → Int) : Int :=
  if n - m - c < k ∧ 0 ≤ G (k - 1) ∧ 0 < G (k - 1) - (k - 1) then
    min (if k < n - m + c ∧ 0 < G (k + 1) then G (k + 1) - 1 else if c = 0 then n else n + 1) (G (k - 1))
  else if k < n - m + c ∧ 0 < G (k + 1) then G (k + 1) - 1 else if c = 0 then n else n + 1

def put (F : Int → Int) (k v : Int) : Int → Int := fun j => if j = k then v else F j

abbrev Res := Option (Int × Int × Int × Int) × Int

def fStep (a b : Nat → Int) (n m : Nat) (c k : Int) (G F : Int → Int) (s : Int) : Except Res ((Int → Int) × Int) :=
  if (k + c) % 2 ≠ 0 then .ok (F, s)
  else if s - 1 < 0 then .error (none, s - 1)
  else if stF n m c k F < 0 then .ok (F, s - 1)
  else if ((n : Int) - m) % 2 ≠ 0 ∧ (n : Int) - m - (c - 1) ≤ k ∧ k ≤ (n : Int) - m + (c - 1) ∧ 0 ≤ G k ∧ G k ≤ snF a b n m k n (stF n m c k F) then
    .error (some (stF n m c k F, stF n m c k F - k, snF a b n m k n (stF n m c k F), snF a b n m k n (stF n m c k F) - k), s - 1 - (snF a b n m k n (stF n m c k F) - stF n m c k F))
  else .ok (put F k (max (F k) (snF a b n m k n (stF n m c k F))), s - 1 - (snF a b n m k n (stF n m c k F) - stF n m c k F))

def bStep (a b : Nat → Int) (n m : Nat) (c k : Int) (F G : Int → Int) (s : Int) : Except Res ((Int → Int) × Int) :=
  if (k - ((n : Int) - m) + c) % 2 ≠ 0 then .ok (G, s)
  else if s - 1 < 0 then .error (none, s - 1)
  else if n < stB n m c k G then .ok (G, s - 1)
  else if ((n : Int) - m) % 2 = 0 ∧ -c ≤ k ∧ k ≤ c ∧ snB a b k n (stB n m c k G) ≤ F k then
    .error (some (snB a b k n (stB n m c k G), snB a b k n (stB n m c k G) - k, stB n m c k G, stB n m c k G - k), s - 1 - (stB n m c k G - snB a b k n (stB n m c k G)))
  else .ok (if G k < 0 ∨ snB a b k n (stB n m c k G) < G k then put G k (snB a b k n (stB n m c k G)) else G, s - 1 - (stB n m c k G - snB a b k n (stB n m c k G)))

/-- a row of diagonals, from k down, j of them -/
def sweep (step : Int → (Int → Int) → Int → Except Res ((Int → Int) × Int)) : Nat → Int → (Int → Int) → Int → Except Res ((Int → Int) × Int)
  | 0, _, F, s => .ok (F, s)
  | j + 1, k, F, s => match step k F s with
    | .error r => .error r
    | .ok (F', s') => sweep step j (k - 1) F' s'

def fRow (a b : Nat → Int) (n m : Nat) (c : Int) (G F : Int → Int) (s : Int) : Except Res ((Int → Int) × Int) :=
  sweep (fun k F s => fStep a b n m c k G F s) (min c n - max (-c) (-m) + 1).toNat (min c n) F s

def bRow (a b : Nat → Int) (n m : Nat) (c : Int) (F G : Int → Int) (s : Int) : Except Res ((Int → Int) × Int) :=
  sweep (fun k G s => bStep a b n m c k F G s) (min ((n : Int) - m + c) n - max ((n : Int) - m - c) (-m) + 1).toNat (min ((n : Int) - m + c) n) G s

def rounds (a b : Nat → Int) (n m : Nat) : Nat → Int → (Int → Int) → (Int → Int) → Int → Res
  | 0, _, _, _, s => (none, s)
  | j + 1, c, F, G, s => match fRow a b n m c G F s with
    | .error r => r
    | .ok (F', s') => match bRow a b n m c F' G s' with
      | .error r => r
      | .ok (G', s'') => rounds a b n m j (c + 1) F' G' s''

def ms (a b : Nat → Int) (n m : Nat) (s : Int) : Res := rounds a b n m ((n + m + 1) / 2 + 1) 0 (fun _ => -1) (fun _ => -1) s

/-! the snake -/
section
variable {a b : Nat → Int} {n m : Nat} {k : Int}

theorem snF_spec (f : Nat) : ∀ x : Int, x ≤ n → x - k ≤ m → x ≤ snF a b n m k f x ∧ snF a b n m k f x ≤ n ∧ snF a b n m k f x - k ≤ m ∧ ∀ i, x ≤ i → i < snF a b n m k f x → a i.toNat = b (i - k).toNat := by
  induction f with
  | zero => intro x h1 h2; simp only [snF]; exact ⟨by omega, h1, h2, by omega⟩
  | succ f ih =>
    intro x h1 h2
    simp only [snF]
    split
    · rename_i h
      obtain ⟨p1, p2, p3, p4⟩ := ih (x + 1) (by omega) (by omega)
      refine ⟨by omega, p2, p3, fun i hi hlt => ?_⟩
      by_cases hix : i = x
      · subst hix; exact h.2.2
      · exact p4 i (by omega) hlt
    · exact ⟨by omega, h1, h2, by omega⟩

theorem snF_ge (f : Nat) : ∀ x t : Int, t ≤ n → t - k ≤ m → t - x ≤ f → (∀ i, x ≤ i → i < t → a i.toNat = b (i - k).toNat) → t ≤ snF a b n m k f x ∨ t ≤ x := by
  induction f with
  | zero => intro x t _ _ h _; right; omega
  | succ f ih =>
    intro x t h1 h2 h3 h4
    by_cases hx : t ≤ x
    · exact .inr hx
    · left
      simp only [snF]
      rw [if_pos ⟨by omega, by omega, h4 x (by omega) (by omega)⟩]
      rcases ih (x + 1) t h1 h2 (by omega) (fun i hi => h4 i (by omega)) with h | h
      · exact h
      · have : x + 1 ≤ snF a b n m k f (x + 1) := (snF_spec f (x + 1) (by omega) (by omega)).1
        omega

/-- enough fuel: where the snake stops there is no more match -/
theorem snF_stop (f : Nat) : ∀ x : Int, n - x ≤ f → ¬ (snF a b n m k f x < n ∧ snF a b n m k f x - k < m ∧ a (snF a b n m k f x).toNat = b (snF a b n m k f x - k).toNat) := by
  induction f with
  | zero => intro x h; simp only [snF]; omega
  | succ f ih =>
    intro x h
    simp only [snF]
    split
    · exact ih (x + 1) (by omega)
    · rename_i hn; exact hn

theorem snB_spec (f : Nat) : ∀ x : Int, 0 ≤ x → 0 ≤ x - k → snB a b k f x ≤ x ∧ 0 ≤ snB a b k f x ∧ 0 ≤ snB a b k f x - k ∧ ∀ i, snB a b k f x ≤ i → i < x → a i.toNat = b (i - k).toNat := by
  induction f with
  | zero => intro x h1 h2; simp only [snB]; exact ⟨by omega, h1, h2, by omega⟩
  | succ f ih =>
    intro x h1 h2
    simp only [snB]
    split
    · rename_i h
      obtain ⟨p1, p2, p3, p4⟩ := ih (x - 1) (by omega) (by omega)
      refine ⟨by omega, p2, p3, fun i hi hlt => ?_⟩
      by_cases hix : i = x - 1
      · subst hix; rw [show x - 1 - k = x - k - 1 by omega]; exact h.2.2
      · exact p4 i hi (by omega)
    · exact ⟨by omega, h1, h2, by omega⟩

theorem snB_le (f : Nat) : ∀ x t : Int, 0 ≤ t → 0 ≤ t - k → x - t ≤ f → (∀ i, t ≤ i → i < x → a i.toNat = b (i - k).toNat) → snB a b k f x ≤ t ∨ x ≤ t := by
  induction f with
  | zero => intro x t _ _ h _; right; omega
  | succ f ih =>
    intro x t h1 h2 h3 h4
    by_cases hx : x ≤ t
    · exact .inr hx
    · left
      simp only [snB]
      have hm := h4 (x - 1) (by omega) (by omega)
      rw [if_pos ⟨by omega, by omega, by rw [show x - k - 1 = x - 1 - k by omega]; exact hm⟩]
      rcases ih (x - 1) t h1 h2 (by omega) (fun i hi hlt => h4 i hi (by omega)) with h | h
      · exact h
      · have : snB a b k f (x - 1) ≤ x - 1 := (snB_spec f (x - 1) (by omega) (by omega)).1
        omega

theorem snB_stop (f : Nat) : ∀ x : Int, x ≤ f → ¬ (0 < snB a b k f x ∧ 0 < snB a b k f x - k ∧ a (snB a b k f x - 1).toNat = b (snB a b k f x - k - 1).toNat) := by
  induction f with
  | zero => intro x h; simp only [snB]; omega
  | succ f ih =>
    intro x h
    simp only [snB]
    split
    · exact ih (x - 1) (by omega)
    · rename_i hn; exact hn

theorem d_run (j : Nat) : ∀ x t : Int, 0 ≤ x → 0 ≤ x - k → t - x ≤ j → x ≤ t → (∀ i, x ≤ i → i < t → a i.toNat = b (i - k).toNat) → d a b t (t - k) = d a b x (x - k) := by
  induction j with
  | zero => intro x t _ _ h1 h2 _; rw [show t = x by omega]
  | succ j ih =>
    intro x t h0 h0' h1 h2 h3
    by_cases hx : x = t
    · rw [hx]
    · have := ih (x + 1) t (by omega) (by omega) (by omega) (by omega) (fun i hi => h3 i (by omega))
      rw [this, show x + 1 - k = x - k + 1 by omega]
      exact d_match a b h0 h0' (h3 x (by omega) (by omega))

theorem e_run (j : Nat) : ∀ x t : Int, 0 ≤ x → 0 ≤ x - k → t ≤ n → t - k ≤ m → t - x ≤ j → x ≤ t → (∀ i, x ≤ i → i < t → a i.toNat = b (i - k).toNat) → e a b n m t (t - k) = e a b n m x (x - k) := by
  induction j with
  | zero => intro x t _ _ _ _ h1 h2 _; rw [show t = x by omega]
  | succ j ih =>
    intro x t h0 h0' hn hm h1 h2 h3
    by_cases hx : x = t
    · rw [hx]
    · have := ih (x + 1) t (by omega) (by omega) hn hm (by omega) (by omega) (fun i hi => h3 i (by omega))
      rw [this]
      have hh := e_match a b n m (x := x + 1) (y := x + 1 - k) (by omega) (by omega) (by omega) (by omega) (by
        rw [show x + 1 - 1 = x by omega, show x + 1 - k - 1 = x - k by omega]; exact h3 x (by omega) (by omega))
      rw [← hh, show x + 1 - 1 = x by omega, show x + 1 - k - 1 = x - k by omega]

theorem d_diag_le (j : Nat) : ∀ x t : Int, 0 ≤ x → 0 ≤ x - k → t - x ≤ j → x ≤ t → d a b x (x - k) ≤ d a b t (t - k) := by
  induction j with
  | zero => intro x t _ _ h1 h2; rw [show t = x by omega]; omega
  | succ j ih =>
    intro x t h0 h0' h1 h2
    by_cases hx : x = t
    · rw [hx]; omega
    · have := ih (x + 1) t (by omega) (by omega) (by omega) (by omega)
      have h := d_diag a b h0 h0'
      rw [show x - k + 1 = x + 1 - k by omega] at h
      omega

theorem e_diag_le (j : Nat) : ∀ x t : Int, t ≤ n → t - k ≤ m → t - x ≤ j → x ≤ t → e a b n m t (t - k) ≤ e a b n m x (x - k) := by
  induction j with
  | zero => intro x t _ _ h1 h2; rw [show t = x by omega]; omega
  | succ j ih =>
    intro x t hn hm h1 h2
    by_cases hx : x = t
    · rw [hx]; omega
    · have := ih (x + 1) t hn hm (by omega) (by omega)
      have h := e_diag a b n m (x := x + 1) (y := x + 1 - k) (by omega) (by omega)
      rw [show x + 1 - 1 = x by omega, show x + 1 - k - 1 = x - k by omega] at h
      omega

/-- the snake that leads to a point of a shortest path, traced back to its head -/
theorem opt_run (j : Nat) : ∀ x y : Int, Opt a b n m x y → x ≤ j → ∃ x1 y1, x1 - y1 = x - y ∧ x1 ≤ x ∧ Opt a b n m x1 y1 ∧ d a b x1 y1 = d a b x y ∧ (∀ i, x1 ≤ i → i < x → a i.toNat = b (i - (x - y)).toNat) ∧
    ((x1 = 0 ∧ y1 = 0) ∨ (0 < x1 ∧ Opt a b n m (x1 - 1) y1 ∧ d a b (x1 - 1) y1 = d a b x y - 1) ∨ (0 < y1 ∧ Opt a b n m x1 (y1 - 1) ∧ d a b x1 (y1 - 1) = d a b x y - 1)) := by
  induction j with
  | zero =>
    intro x y h hj
    have hx0 := h.x0
    by_cases hy : 0 < y
    · rcases h.pred (.inr hy) with ⟨h1, _⟩ | ⟨h1, _⟩ | ⟨h1, ho, hd⟩
      · omega
      · omega
      · exact ⟨x, y, rfl, by omega, h, rfl, by omega, .inr (.inr ⟨h1, ho, hd⟩)⟩
    · have hy0 := h.y0
      exact ⟨x, y, rfl, by omega, h, rfl, by omega, .inl ⟨by omega, by omega⟩⟩
  | succ j ih =>
    intro x y h hj
    have hx0 := h.x0
    have hy0 := h.y0
    by_cases hp : 0 < x ∨ 0 < y
    · rcases h.pred hp with ⟨h1, h2, hm, ho, hd⟩ | ⟨h1, ho, hd⟩ | ⟨h1, ho, hd⟩
      · obtain ⟨x1, y1, q1, q2, q3, q4, q5, q6⟩ := ih (x - 1) (y - 1) ho (by omega)
        rw [hd] at q4 q6
        rw [show x - 1 - (y - 1) = x - y by omega] at q1 q5
        refine ⟨x1, y1, q1, by omega, q3, q4, fun i hi hlt => ?_, q6⟩
        by_cases hix : i = x - 1
        · subst hix; rw [show x - 1 - (x - y) = y - 1 by omega]; exact hm
        · exact q5 i hi (by omega)
      · exact ⟨x, y, rfl, by omega, h, rfl, by omega, .inr (.inl ⟨h1, ho, hd⟩)⟩
      · exact ⟨x, y, rfl, by omega, h, rfl, by omega, .inr (.inr ⟨h1, ho, hd⟩)⟩
    · exact ⟨x, y, rfl, by omega, h, rfl, by omega, .inl ⟨by omega, by omega⟩⟩

theorem opt_run_back (j : Nat) : ∀ x y : Int, Opt a b n m x y → n - x ≤ j → ∃ x1 y1, x1 - y1 = x - y ∧ x ≤ x1 ∧ Opt a b n m x1 y1 ∧ e a b n m x1 y1 = e a b n m x y ∧ (∀ i, x ≤ i → i < x1 → a i.toNat = b (i - (x - y)).toNat) ∧
    ((x1 = n ∧ y1 = m) ∨ (x1 < n ∧ Opt a b n m (x1 + 1) y1 ∧ e a b n m (x1 + 1) y1 = e a b n m x y - 1) ∨ (y1 < m ∧ Opt a b n m x1 (y1 + 1) ∧ e a b n m x1 (y1 + 1) = e a b n m x y - 1)) := by
  induction j with
  | zero =>
    intro x y h hj
    have hxn := h.xn
    by_cases hy : y < m
    · rcases h.succ (.inr hy) with ⟨h1, _⟩ | ⟨h1, _⟩ | ⟨h1, ho, hd⟩
      · omega
      · omega
      · exact ⟨x, y, rfl, by omega, h, rfl, by omega, .inr (.inr ⟨h1, ho, hd⟩)⟩
    · have hym := h.ym
      exact ⟨x, y, rfl, by omega, h, rfl, by omega, .inl ⟨by omega, by omega⟩⟩
  | succ j ih =>
    intro x y h hj
    have hxn := h.xn
    have hym := h.ym
    by_cases hp : x < n ∨ y < m
    · rcases h.succ hp with ⟨h1, h2, hm, ho, hd⟩ | ⟨h1, ho, hd⟩ | ⟨h1, ho, hd⟩
      · obtain ⟨x1, y1, q1, q2, q3, q4, q5, q6⟩ := ih (x + 1) (y + 1) ho (by omega)
        rw [hd] at q4 q6
        rw [show x + 1 - (y + 1) = x - y by omega] at q1 q5
        refine ⟨x1, y1, q1, by omega, q3, q4, fun i hi hlt => ?_, q6⟩
        by_cases hix : i = x
        · subst hix; rw [show i - (i - y) = y by omega]; exact hm
        · exact q5 i (by omega) hlt
      · exact ⟨x, y, rfl, by omega, h, rfl, by omega, .inr (.inl ⟨h1, ho, hd⟩)⟩
      · exact ⟨x, y, rfl, by omega, h, rfl, by omega, .inr (.inr ⟨h1, ho, hd⟩)⟩
    · exact ⟨x, y, rfl, by omega, h, rfl, by omega, .inl ⟨by omega, by omega⟩⟩
end


/-! the law of the search -/
section
variable (a b : Nat → Int) (n m : Nat)

def SoundF (c : Int) (F : Int → Int) : Prop := ∀ k, 0 ≤ F k → F k ≤ n ∧ 0 ≤ F k - k ∧ F k - k ≤ m ∧ d a b (F k) (F k - k) ≤ c
def SoundB (c : Int) (G : Int → Int) : Prop := ∀ k, 0 ≤ G k → G k ≤ n ∧ 0 ≤ G k - k ∧ G k - k ≤ m ∧ e a b n m (G k) (G k - k) ≤ c
def CompF (c : Int) (F : Int → Int) : Prop := ∀ x y, Opt a b n m x y → d a b x y ≤ c → x ≤ F (x - y)
def CompB (c : Int) (G : Int → Int) : Prop := ∀ x y, Opt a b n m x y → e a b n m x y ≤ c → 0 ≤ G (x - y) ∧ G (x - y) ≤ x

/-- what the search hands back -/
structure Good (r : Int × Int × Int × Int) : Prop where
  x0 : 0 ≤ r.1
  x1 : r.1 ≤ r.2.2.1
  xn : r.2.2.1 ≤ n
  y0 : 0 ≤ r.2.1
  y1 : r.2.1 ≤ r.2.2.2
  ym : r.2.2.2 ≤ m
  len : r.2.2.1 - r.1 = r.2.2.2 - r.2.1
  same : ∀ i : Int, 0 ≤ i → i < r.2.2.1 - r.1 → a (r.1 + i).toNat = b (r.2.1 + i).toNat
  whole : d a b r.1 r.2.1 + e a b n m r.2.2.1 r.2.2.2 = D a b n m
  half : d a b r.1 r.2.1 = (D a b n m + 1) / 2

/-- ahead of diagonal k0 in the forward row of round c -/
structure IF (c k0 : Int) (F : Int → Int) : Prop where
  sound : SoundF a b n m c F
  comp : CompF a b n m (c - 1) F
  here : ∀ x y, Opt a b n m x y → d a b x y = c → k0 < x - y → x ≤ F (x - y)
  none : ((n : Int) - m) % 2 ≠ 0 → ∀ x y, Opt a b n m x y → d a b x y = c → e a b n m x y = c - 1 → x - y ≤ k0

structure IB (c k0 : Int) (G : Int → Int) : Prop where
  sound : SoundB a b n m c G
  comp : CompB a b n m (c - 1) G
  here : ∀ x y, Opt a b n m x y → e a b n m x y = c → k0 < x - y → 0 ≤ G (x - y) ∧ G (x - y) ≤ x
  none : ((n : Int) - m) % 2 = 0 → ∀ x y, Opt a b n m x y → e a b n m x y = c → d a b x y = c → x - y ≤ k0

variable {a b n m}

theorem stF_sound {c k : Int} {F : Int → Int} (h : SoundF a b n m c F) (hk : -c ≤ k) (hk' : k ≤ c) (hp : (k + c) % 2 = 0) (hx : 0 ≤ stF n m c k F) :
    stF n m c k F ≤ n ∧ 0 ≤ stF n m c k F - k ∧ stF n m c k F - k ≤ m ∧ d a b (stF n m c k F) (stF n m c k F - k) ≤ c := by
  have down : k < c ∧ 0 ≤ F (k + 1) ∧ F (k + 1) - (k + 1) < m → F (k + 1) ≤ n ∧ 0 ≤ F (k + 1) - k ∧ F (k + 1) - k ≤ m ∧ d a b (F (k + 1)) (F (k + 1) - k) ≤ c := by
    rintro ⟨h1, h2, h3⟩
    obtain ⟨q1, q2, q3, q4⟩ := h (k + 1) h2
    have hd := (d_down a b h2 q2).1
    have hpar := d_parity a b (F (k + 1)) (F (k + 1) - (k + 1))
    rw [show F (k + 1) - (k + 1) + 1 = F (k + 1) - k by omega] at hd
    exact ⟨q1, by omega, by omega, by omega⟩
  have right : -c < k ∧ 0 ≤ F (k - 1) ∧ F (k - 1) < n → F (k - 1) + 1 ≤ n ∧ 0 ≤ F (k - 1) + 1 - k ∧ F (k - 1) + 1 - k ≤ m ∧ d a b (F (k - 1) + 1) (F (k - 1) + 1 - k) ≤ c := by
    rintro ⟨h1, h2, h3⟩
    obtain ⟨q1, q2, q3, q4⟩ := h (k - 1) h2
    have hd := (d_right a b h2 q2).1
    have hpar := d_parity a b (F (k - 1)) (F (k - 1) - (k - 1))
    rw [show F (k - 1) - (k - 1) = F (k - 1) + 1 - k by omega] at hd hpar q2 q3 q4
    exact ⟨by omega, by omega, by omega, by omega⟩
  have zero : c = 0 → (0 : Int) ≤ n ∧ 0 ≤ (0 : Int) - k ∧ (0 : Int) - k ≤ m ∧ d a b 0 (0 - k) ≤ c := by
    intro h0
    obtain rfl : k = 0 := by omega
    have := d_zero a b
    refine ⟨by omega, by omega, by omega, ?_⟩
    show d a b 0 0 ≤ c
    omega
  unfold stF at hx ⊢
  split
  · rename_i h1
    rw [if_pos h1] at hx
    split
    · rename_i h2
      rcases Int.le_total (F (k + 1)) (F (k - 1) + 1) with hle | hle
      · rw [Int.max_eq_right hle]; exact right h1
      · rw [Int.max_eq_left hle]; exact down h2
    · split
      · rename_i h2 h3
        rw [Int.max_eq_right (by omega)]; exact right h1
      · rw [Int.max_eq_right (by omega)]; exact right h1
  · rename_i h1
    rw [if_neg h1] at hx
    split
    · rename_i h2; exact down h2
    · rename_i h2
      rw [if_neg h2] at hx
      split
      · rename_i h3; exact zero h3
      · rename_i h3; rw [if_neg h3] at hx; omega

/-- a point of a shortest path is reached -/
theorem stF_comp {c k : Int} {F : Int → Int} (h : SoundF a b n m c F) (hc : CompF a b n m (c - 1) F) {x y : Int} (ho : Opt a b n m x y) (hd : d a b x y = c) (hk : x - y = k) :
    0 ≤ stF n m c k F ∧ x ≤ snF a b n m k n (stF n m c k F) := by
  have hpar : (k + c) % 2 = 0 := by have := d_parity a b x y; omega
  have hb := d_bound a b ho.x0 ho.y0
  obtain ⟨x1, y1, q1, q2, q3, q4, q5, q6⟩ := opt_run x.toNat x y ho (by have := ho.x0; omega)
  rw [hd] at q4 q6
  rw [hk] at q1 q5
  have hx1 := q3.x0
  have hy1 := q3.y0
  have hx1n := q3.xn
  have hy1m := q3.ym
  have heq := q3.eq
  have hebd := e_bound a b n m hx1n hy1m
  have start : x1 ≤ stF n m c k F := by
    rcases q6 with ⟨rfl, rfl⟩ | ⟨h1, h2, h3⟩ | ⟨h1, h2, h3⟩
    · have hz := d_zero a b
      obtain rfl : c = 0 := by omega
      obtain rfl : k = 0 := by omega
      simp [stF]
    · -- from the left
      have hbd := d_bound a b h2.x0 h2.y0
      have hF := hc (x1 - 1) y1 h2 (by omega)
      rw [show x1 - 1 - y1 = k - 1 by omega] at hF
      obtain ⟨s1, s2, s3, s4⟩ := h (k - 1) (by omega)
      have hp2 := d_parity a b (F (k - 1)) (F (k - 1) - (k - 1))
      have hlt : F (k - 1) < n := by
        rcases Int.lt_or_le (F (k - 1)) n with hl | hl
        · exact hl
        · have ht := tri a b n m (x := F (k - 1)) (y := F (k - 1) - (k - 1)) (by omega) s2 s1 s3
          have hb2 := e_bound a b n m (x := F (k - 1)) (y := F (k - 1) - (k - 1)) s1 s3
          omega
      unfold stF
      rw [if_pos ⟨by omega, by omega, hlt⟩]
      exact Int.le_trans (by omega) (Int.le_max_right _ _)
    · -- from above
      have hbd := d_bound a b h2.x0 h2.y0
      have hF := hc x1 (y1 - 1) h2 (by omega)
      rw [show x1 - (y1 - 1) = k + 1 by omega] at hF
      obtain ⟨s1, s2, s3, s4⟩ := h (k + 1) (by omega)
      have hp2 := d_parity a b (F (k + 1)) (F (k + 1) - (k + 1))
      have hlt : F (k + 1) - (k + 1) < m := by
        rcases Int.lt_or_le (F (k + 1) - (k + 1)) m with hl | hl
        · exact hl
        · have ht := tri a b n m (x := F (k + 1)) (y := F (k + 1) - (k + 1)) (by omega) s2 s1 s3
          have hb2 := e_bound a b n m (x := F (k + 1)) (y := F (k + 1) - (k + 1)) s1 s3
          omega
      have hcond : k < c ∧ 0 ≤ F (k + 1) ∧ F (k + 1) - (k + 1) < m := ⟨by omega, by omega, hlt⟩
      unfold stF
      rw [if_pos hcond]
      split
      · exact Int.le_trans hF (Int.le_max_left _ _)
      · exact hF
  refine ⟨by omega, ?_⟩
  have hbnd := stF_sound h (by omega) (by omega) hpar (by omega : 0 ≤ stF n m c k F)
  have hspec := snF_spec (a := a) (b := b) (n := n) (m := m) (k := k) n (stF n m c k F) hbnd.1 hbnd.2.2.1
  have hym := ho.ym
  have hxn := ho.xn
  rcases snF_ge (a := a) (b := b) (n := n) (m := m) (k := k) n (stF n m c k F) x hxn (by omega) (by omega) (fun i hi hlt => q5 i (by omega) hlt) with hg | hg
  · exact hg
  · omega

theorem fStep_law {c k : Int} {F G : Int → Int} {s : Int} (hI : IF a b n m c k F) (hsB : SoundB a b n m (c - 1) G) (hcB : CompB a b n m (c - 1) G) (hD : 2 * c - 1 ≤ D a b n m) (hk : -c ≤ k) (hk' : k ≤ c) :
    match fStep a b n m c k G F s with
    | .error (some r, _) => Good a b n m r
    | .error (none, s') => s' < 0
    | .ok (F', _) => IF a b n m c (k - 1) F' := by
  obtain ⟨hs, hc, hh, hn⟩ := hI
  unfold fStep
  by_cases hpar : (k + c) % 2 = 0
  · rw [if_neg (by omega)]
    by_cases hst : s - 1 < 0
    · rw [if_pos hst]; exact hst
    · rw [if_neg hst]
      by_cases hx : stF n m c k F < 0
      · rw [if_pos hx]
        have no : ∀ x y, Opt a b n m x y → d a b x y = c → x - y ≠ k := by
          intro x y ho hd hk2
          have := (stF_comp hs hc ho hd hk2).1
          omega
        refine ⟨hs, hc, fun x y ho hd hlt => hh x y ho hd ?_, fun ho' x y ho hd he => ?_⟩
        · have := no x y ho hd; omega
        · have := hn ho' x y ho hd he; have := no x y ho hd; omega
      · rw [if_neg hx]
        have hsd := stF_sound hs hk hk' hpar (by omega)
        have hsp := snF_spec (a := a) (b := b) (n := n) (m := m) (k := k) n (stF n m c k F) hsd.1 hsd.2.2.1
        have hcp : ∀ x y, Opt a b n m x y → d a b x y = c → x - y = k → x ≤ snF a b n m k n (stF n m c k F) := fun x y ho hd hk2 => (stF_comp hs hc ho hd hk2).2
        generalize hX : stF n m c k F = X at *
        generalize hX' : snF a b n m k n X = X' at *
        have hdX : d a b X' (X' - k) = d a b X (X - k) := d_run (X' - X).toNat X X' (by omega) hsd.2.1 (by omega) hsp.1 hsp.2.2.2
        by_cases hf : ((n : Int) - m) % 2 ≠ 0 ∧ (n : Int) - m - (c - 1) ≤ k ∧ k ≤ (n : Int) - m + (c - 1) ∧ 0 ≤ G k ∧ G k ≤ X'
        · rw [if_pos hf]
          obtain ⟨f1, f2, f3, f4, f5⟩ := hf
          obtain ⟨g1, g2, g3, g4⟩ := hsB k f4
          have he := e_diag_le (a := a) (b := b) (n := n) (m := m) (k := k) (X' - G k).toNat (G k) X' hsp.2.1 hsp.2.2.1 (by omega) f5
          have ht := tri a b n m (x := X') (y := X' - k) (by omega) (by omega) hsp.2.1 hsp.2.2.1
          have hpD : (D a b n m - ((n : Int) - m)) % 2 = 0 := d_parity a b n m
          refine ⟨by show 0 ≤ X; omega, hsp.1, hsp.2.1, hsd.2.1, by show X - k ≤ X' - k; omega, hsp.2.2.1, by show X' - X = X' - k - (X - k); omega, fun i h0 hi => ?_, ?_, ?_⟩
          · have := hsp.2.2.2 (X + i) (by omega) (by have : i < X' - X := hi; omega)
            show a (X + i).toNat = b (X - k + i).toNat
            rw [show X - k + i = X + i - k by omega]; exact this
          · show d a b X (X - k) + e a b n m X' (X' - k) = D a b n m
            omega
          · show d a b X (X - k) = (D a b n m + 1) / 2
            omega
        · rw [if_neg hf]
          refine ⟨?_, ?_, ?_, ?_⟩
          · intro j hj
            unfold put at hj ⊢
            split
            · rename_i hjk
              subst hjk
              rw [if_pos rfl] at hj
              rcases Int.le_total (F j) X' with hle | hle
              · rw [Int.max_eq_right hle]; exact ⟨hsp.2.1, by omega, hsp.2.2.1, by omega⟩
              · rw [Int.max_eq_left hle]; exact hs j (by omega)
            · rename_i hjk
              rw [if_neg hjk] at hj
              exact hs j hj
          · intro x y ho hd
            have := hc x y ho hd
            unfold put
            split
            · rename_i hjk; rw [hjk] at this; exact Int.le_trans this (Int.le_max_left _ _)
            · exact this
          · intro x y ho hd hlt
            unfold put
            split
            · rename_i hjk; exact Int.le_trans (hcp x y ho hd hjk) (Int.le_max_right _ _)
            · rename_i hjk; exact hh x y ho hd (by omega)
          · intro ho' x y ho hd he
            have h1 := hn ho' x y ho hd he
            by_cases hjk : x - y = k
            · exfalso
              have hcb := hcB x y ho (by omega)
              rw [hjk] at hcb
              have := hcp x y ho hd hjk
              have heb := e_bound a b n m ho.xn ho.ym
              exact hf ⟨ho', by omega, by omega, hcb.1, by omega⟩
            · omega
  · rw [if_pos hpar]
    have no : ∀ x y, Opt a b n m x y → d a b x y = c → x - y ≠ k := by
      intro x y ho hd hk2
      have := d_parity a b x y
      omega
    refine ⟨hs, hc, fun x y ho hd hlt => hh x y ho hd ?_, fun ho' x y ho hd he => ?_⟩
    · have := no x y ho hd; omega
    · have := hn ho' x y ho hd he; have := no x y ho hd; omega
end


section
variable {a b : Nat → Int} {n m : Nat}

theorem stB_sound {c k : Int} {G : Int → Int} (h : SoundB a b n m c G) (hk : (n : Int) - m - c ≤ k) (hk' : k ≤ (n : Int) - m + c) (hp : (k - ((n : Int) - m) + c) % 2 = 0) (hx : stB n m c k G ≤ n) :
    0 ≤ stB n m c k G ∧ 0 ≤ stB n m c k G - k ∧ stB n m c k G - k ≤ m ∧ e a b n m (stB n m c k G) (stB n m c k G - k) ≤ c := by
  have left : k < (n : Int) - m + c ∧ 0 < G (k + 1) → 0 ≤ G (k + 1) - 1 ∧ 0 ≤ G (k + 1) - 1 - k ∧ G (k + 1) - 1 - k ≤ m ∧ e a b n m (G (k + 1) - 1) (G (k + 1) - 1 - k) ≤ c := by
    rintro ⟨h1, h2⟩
    obtain ⟨q1, q2, q3, q4⟩ := h (k + 1) (by omega)
    have hd := (e_left a b n m q1 q3).1
    have hpar := e_parity a b n m (G (k + 1)) (G (k + 1) - (k + 1))
    rw [show G (k + 1) - (k + 1) = G (k + 1) - 1 - k by omega] at hd hpar q2 q3 q4
    exact ⟨by omega, by omega, by omega, by omega⟩
  have up : (n : Int) - m - c < k ∧ 0 ≤ G (k - 1) ∧ 0 < G (k - 1) - (k - 1) → 0 ≤ G (k - 1) ∧ 0 ≤ G (k - 1) - k ∧ G (k - 1) - k ≤ m ∧ e a b n m (G (k - 1)) (G (k - 1) - k) ≤ c := by
    rintro ⟨h1, h2, h3⟩
    obtain ⟨q1, q2, q3, q4⟩ := h (k - 1) h2
    have hd := (e_up a b n m q1 q3).1
    have hpar := e_parity a b n m (G (k - 1)) (G (k - 1) - (k - 1))
    rw [show G (k - 1) - (k - 1) - 1 = G (k - 1) - k by omega] at hd
    exact ⟨by omega, by omega, by omega, by omega⟩
  have zero : c = 0 → (0 : Int) ≤ n ∧ 0 ≤ (n : Int) - k ∧ (n : Int) - k ≤ m ∧ e a b n m n (n - k) ≤ c := by
    intro h0
    obtain rfl : k = (n : Int) - m := by omega
    have := e_end a b n m
    rw [show (n : Int) - (n - m) = m by omega]
    exact ⟨by omega, by omega, by omega, by omega⟩
  unfold stB at hx ⊢
  split
  · rename_i h1
    rw [if_pos h1] at hx
    have hG := (h (k - 1) h1.2.1).1
    split
    · rename_i h2
      rcases Int.le_total (G (k + 1) - 1) (G (k - 1)) with hle | hle
      · rw [Int.min_eq_left hle]; exact left h2
      · rw [Int.min_eq_right hle]; exact up h1
    · split
      · rename_i h2 h3
        omega
      · rw [Int.min_eq_right (by omega)]; exact up h1
  · rename_i h1
    rw [if_neg h1] at hx
    split
    · rename_i h2; exact left h2
    · rename_i h2
      rw [if_neg h2] at hx
      split
      · rename_i h3; exact zero h3
      · rename_i h3; rw [if_neg h3] at hx; omega

theorem stB_comp {c k : Int} {G : Int → Int} (h : SoundB a b n m c G) (hc : CompB a b n m (c - 1) G) {x y : Int} (ho : Opt a b n m x y) (he : e a b n m x y = c) (hk : x - y = k) :
    stB n m c k G ≤ n ∧ snB a b k n (stB n m c k G) ≤ x := by
  have hpar : (k - ((n : Int) - m) + c) % 2 = 0 := by have := e_parity a b n m x y; omega
  have hb := e_bound a b n m ho.xn ho.ym
  obtain ⟨x1, y1, q1, q2, q3, q4, q5, q6⟩ := opt_run_back (n - x).toNat x y ho (by have := ho.xn; omega)
  rw [he] at q4 q6
  rw [hk] at q1 q5
  have hx1 := q3.x0
  have hy1 := q3.y0
  have hx1n := q3.xn
  have hy1m := q3.ym
  have heq := q3.eq
  have hdbd := d_bound a b hx1 hy1
  have start : stB n m c k G ≤ x1 := by
    rcases q6 with ⟨rfl, rfl⟩ | ⟨h1, h2, h3⟩ | ⟨h1, h2, h3⟩
    · have hz := e_end a b n m
      obtain rfl : c = 0 := by omega
      obtain rfl : k = (n : Int) - m := by omega
      unfold stB
      rw [if_neg (by omega), if_neg (by omega), if_pos rfl]
      omega
    · have hbd := e_bound a b n m h2.xn h2.ym
      have hG := hc (x1 + 1) y1 h2 (by omega)
      rw [show x1 + 1 - y1 = k + 1 by omega] at hG
      obtain ⟨s1, s2, s3, s4⟩ := h (k + 1) (by omega)
      have hp2 := e_parity a b n m (G (k + 1)) (G (k + 1) - (k + 1))
      have hlt : 0 < G (k + 1) := by
        rcases Int.lt_or_le 0 (G (k + 1)) with hl | hl
        · exact hl
        · have ht := tri a b n m (x := G (k + 1)) (y := G (k + 1) - (k + 1)) (by omega) s2 s1 s3
          have hb2 := d_bound a b (x := G (k + 1)) (y := G (k + 1) - (k + 1)) (by omega) s2
          omega
      have hcond : k < (n : Int) - m + c ∧ 0 < G (k + 1) := ⟨by omega, hlt⟩
      unfold stB
      rw [if_pos hcond]
      split
      · exact Int.le_trans (Int.min_le_left _ _) (by omega)
      · omega
    · have hbd := e_bound a b n m h2.xn h2.ym
      have hG := hc x1 (y1 + 1) h2 (by omega)
      rw [show x1 - (y1 + 1) = k - 1 by omega] at hG
      obtain ⟨s1, s2, s3, s4⟩ := h (k - 1) (by omega)
      have hp2 := e_parity a b n m (G (k - 1)) (G (k - 1) - (k - 1))
      have hlt : 0 < G (k - 1) - (k - 1) := by
        rcases Int.lt_or_le 0 (G (k - 1) - (k - 1)) with hl | hl
        · exact hl
        · have ht := tri a b n m (x := G (k - 1)) (y := G (k - 1) - (k - 1)) (by omega) s2 s1 s3
          have hb2 := d_bound a b (x := G (k - 1)) (y := G (k - 1) - (k - 1)) (by omega) s2
          omega
      unfold stB
      rw [if_pos ⟨by omega, hG.1, hlt⟩]
      exact Int.le_trans (Int.min_le_right _ _) hG.2
  refine ⟨by omega, ?_⟩
  have hbnd := stB_sound h (by omega) (by omega) hpar (by omega : stB n m c k G ≤ n)
  have hspec := snB_spec (a := a) (b := b) (k := k) n (stB n m c k G) hbnd.1 hbnd.2.1
  have hx0 := ho.x0
  have hy0 := ho.y0
  rcases snB_le (a := a) (b := b) (k := k) n (stB n m c k G) x hx0 (by omega) (by omega) (fun i hi hlt => q5 i hi (by omega)) with hg | hg
  · exact hg
  · omega

theorem bStep_law {c k : Int} {F G : Int → Int} {s : Int} (hI : IB a b n m c k G) (hsF : SoundF a b n m c F) (hcF : CompF a b n m c F) (hD : 2 * c - 1 ≤ D a b n m) (hk : (n : Int) - m - c ≤ k) (hk' : k ≤ (n : Int) - m + c) :
    match bStep a b n m c k F G s with
    | .error (some r, _) => Good a b n m r
    | .error (none, s') => s' < 0
    | .ok (G', _) => IB a b n m c (k - 1) G' := by
  obtain ⟨hs, hc, hh, hn⟩ := hI
  unfold bStep
  by_cases hpar : (k - ((n : Int) - m) + c) % 2 = 0
  · rw [if_neg (by omega)]
    by_cases hst : s - 1 < 0
    · rw [if_pos hst]; exact hst
    · rw [if_neg hst]
      by_cases hx : n < stB n m c k G
      · rw [if_pos hx]
        have no : ∀ x y, Opt a b n m x y → e a b n m x y = c → x - y ≠ k := by
          intro x y ho hd hk2
          have := (stB_comp hs hc ho hd hk2).1
          omega
        refine ⟨hs, hc, fun x y ho hd hlt => hh x y ho hd ?_, fun ho' x y ho hd he => ?_⟩
        · have := no x y ho hd; omega
        · have := hn ho' x y ho hd he; have := no x y ho hd; omega
      · rw [if_neg hx]
        have hsd := stB_sound hs hk hk' hpar (by omega)
        have hsp := snB_spec (a := a) (b := b) (k := k) n (stB n m c k G) hsd.1 hsd.2.1
        have hcp : ∀ x y, Opt a b n m x y → e a b n m x y = c → x - y = k → snB a b k n (stB n m c k G) ≤ x := fun x y ho hd hk2 => (stB_comp hs hc ho hd hk2).2
        generalize hX : stB n m c k G = X at *
        generalize hX' : snB a b k n X = X' at *
        have heX : e a b n m X (X - k) = e a b n m X' (X' - k) := e_run (X - X').toNat X' X (by omega) (by omega) (by omega) (by omega) (by omega) hsp.1 hsp.2.2.2
        by_cases hf : ((n : Int) - m) % 2 = 0 ∧ -c ≤ k ∧ k ≤ c ∧ X' ≤ F k
        · rw [if_pos hf]
          obtain ⟨f1, f2, f3, f4⟩ := hf
          obtain ⟨g1, g2, g3, g4⟩ := hsF k (by omega)
          have hd := d_diag_le (a := a) (b := b) (k := k) (F k - X').toNat X' (F k) (by omega) (by omega) (by omega) f4
          have ht := tri a b n m (x := X') (y := X' - k) (by omega) (by omega) (by omega) (by omega)
          have hpD : (D a b n m - ((n : Int) - m)) % 2 = 0 := d_parity a b n m
          refine ⟨by show 0 ≤ X'; omega, hsp.1, by show X ≤ n; omega, by show 0 ≤ X' - k; omega, by show X' - k ≤ X - k; omega, by show X - k ≤ m; omega, by show X - X' = X - k - (X' - k); omega, fun i h0 hi => ?_, ?_, ?_⟩
          · have := hsp.2.2.2 (X' + i) (by omega) (by have : i < X - X' := hi; omega)
            show a (X' + i).toNat = b (X' - k + i).toNat
            rw [show X' - k + i = X' + i - k by omega]; exact this
          · show d a b X' (X' - k) + e a b n m X (X - k) = D a b n m
            omega
          · show d a b X' (X' - k) = (D a b n m + 1) / 2
            omega
        · rw [if_neg hf]
          have hnew : ∀ j, (if G k < 0 ∨ X' < G k then put G k X' else G) j = if j = k ∧ (G k < 0 ∨ X' < G k) then X' else G j := by
            intro j
            by_cases h1 : G k < 0 ∨ X' < G k
            · rw [if_pos h1]; unfold put; by_cases h2 : j = k <;> simp [h1, h2]
            · rw [if_neg h1, if_neg (by rintro ⟨_, h⟩; exact h1 h)]
          refine ⟨?_, ?_, ?_, ?_⟩
          · intro j hj
            rw [hnew] at hj ⊢
            split
            · rename_i hjk
              obtain ⟨rfl, _⟩ := hjk
              exact ⟨by omega, by omega, by omega, by omega⟩
            · rename_i hjk
              rw [if_neg hjk] at hj
              exact hs j hj
          · intro x y ho hd
            have h1 := hc x y ho hd
            rw [hnew]
            split
            · rename_i hjk; obtain ⟨hjk, h2⟩ := hjk; rw [hjk] at h1; omega
            · exact h1
          · intro x y ho hd hlt
            rw [hnew]
            split
            · rename_i hjk; exact ⟨by omega, hcp x y ho hd hjk.1⟩
            · rename_i hjk
              by_cases hk2 : x - y = k
              · have := hcp x y ho hd hk2
                rw [hk2]
                have : ¬ (G k < 0 ∨ X' < G k) := fun h => hjk ⟨hk2, h⟩
                omega
              · exact hh x y ho hd (by omega)
          · intro ho' x y ho he hd
            have h1 := hn ho' x y ho he hd
            by_cases hjk : x - y = k
            · exfalso
              have hcf := hcF x y ho (by omega)
              rw [hjk] at hcf
              have := hcp x y ho he hjk
              have hdb := d_bound a b ho.x0 ho.y0
              exact hf ⟨ho', by omega, by omega, by omega⟩
            · omega
  · rw [if_pos hpar]
    have no : ∀ x y, Opt a b n m x y → e a b n m x y = c → x - y ≠ k := by
      intro x y ho hd hk2
      have := e_parity a b n m x y
      omega
    refine ⟨hs, hc, fun x y ho hd hlt => hh x y ho hd ?_, fun ho' x y ho hd he => ?_⟩
    · have := no x y ho hd; omega
    · have := hn ho' x y ho hd he; have := no x y ho hd; omega

theorem sweep_law {step : Int → (Int → Int) → Int → Except Res ((Int → Int) × Int)} {I : Int → (Int → Int) → Prop} {P : Int × Int × Int × Int → Prop} {lo hi : Int}
    (hstep : ∀ k F s, lo ≤ k → k ≤ hi → I k F → match step k F s with
      | .error (some r, _) => P r
      | .error (none, s') => s' < 0
      | .ok (F', _) => I (k - 1) F') (j : Nat) : ∀ k F s, lo ≤ k - j + 1 → k ≤ hi → I k F → match sweep step j k F s with
      | .error (some r, _) => P r
      | .error (none, s') => s' < 0
      | .ok (F', _) => I (k - j) F' := by
  induction j with
  | zero => intro k F s _ _ h; simpa [sweep] using h
  | succ j ih =>
    intro k F s h1 h2 h
    have h3 := hstep k F s (by omega) h2 h
    simp only [sweep]
    cases hst : step k F s with
    | error r => rw [hst] at h3; obtain ⟨o, s'⟩ := r; cases o <;> exact h3
    | ok p =>
      obtain ⟨F', s'⟩ := p
      rw [hst] at h3
      have := ih (k - 1) F' s' (by omega) (by omega) h3
      rw [show k - 1 - (j : Int) = k - ((j + 1 : Nat) : Int) by omega] at this
      exact this

/-- ahead of round c -/
structure IR (a b : Nat → Int) (n m : Nat) (c : Int) (F G : Int → Int) : Prop where
  sF : SoundF a b n m (c - 1) F
  cF : CompF a b n m (c - 1) F
  sB : SoundB a b n m (c - 1) G
  cB : CompB a b n m (c - 1) G
  far : 2 * c - 1 ≤ D a b n m

theorem fRow_law {c : Int} (hc0 : 0 ≤ c) {F G : Int → Int} {s : Int} (hI : IR a b n m c F G) :
    match fRow a b n m c G F s with
    | .error (some r, _) => Good a b n m r
    | .error (none, s') => s' < 0
    | .ok (F', _) => SoundF a b n m c F' ∧ CompF a b n m c F' ∧ (((n : Int) - m) % 2 ≠ 0 → 2 * c + 1 ≤ D a b n m) := by
  obtain ⟨sF, cF, sB, cB, far⟩ := hI
  have h0 : IF a b n m c (min c n) F := by
    refine ⟨fun k hk => ?_, cF, fun x y ho hd hlt => ?_, fun _ x y ho hd he => ?_⟩
    · have := sF k hk; exact ⟨this.1, this.2.1, this.2.2.1, by omega⟩
    · have := d_bound a b ho.x0 ho.y0; have := ho.xn; have := ho.y0; omega
    · have := d_bound a b ho.x0 ho.y0; have := ho.xn; have := ho.y0; omega
  have := sweep_law (step := fun k F s => fStep a b n m c k G F s) (I := IF a b n m c) (P := Good a b n m) (lo := max (-c) (-m)) (hi := min c n)
    (fun k F s h1 h2 hI => fStep_law hI sB cB far (by omega) (by omega)) (min c n - max (-c) (-m) + 1).toNat (min c n) F s (by omega) (by omega) h0
  unfold fRow
  revert this
  cases sweep (fun k F s => fStep a b n m c k G F s) (min c n - max (-c) (-m) + 1).toNat (min c n) F s with
  | error r => obtain ⟨o, s'⟩ := r; cases o <;> exact id
  | ok p =>
    obtain ⟨F', s'⟩ := p
    intro this
    obtain ⟨i1, i2, i3, i4⟩ := this
    refine ⟨i1, fun x y ho hd => ?_, fun hodd => ?_⟩
    · by_cases hc : d a b x y = c
      · have := d_bound a b ho.x0 ho.y0; have := ho.x0; have := ho.ym
        exact i3 x y ho hc (by omega)
      · exact i2 x y ho (by omega)
    · have hpD : (D a b n m - ((n : Int) - m)) % 2 = 0 := d_parity a b n m
      rcases Int.lt_or_le (D a b n m) (2 * c + 1) with hlt | hle
      · exfalso
        have hDb := d_bound a b (x := n) (y := m) (by omega) (by omega)
        have hD0 : 0 ≤ D a b n m := by unfold D; omega
        obtain ⟨x, y, ho, hd⟩ := opt_at (a := a) (b := b) (n := n) (m := m) c hc0 (by omega)
        have heq := ho.eq
        have h1 := i4 hodd x y ho hd (by omega)
        have := d_bound a b ho.x0 ho.y0; have := ho.x0; have := ho.ym
        omega
      · exact hle

theorem bRow_law {c : Int} (hc0 : 0 ≤ c) {F G : Int → Int} {s : Int} (sF : SoundF a b n m c F) (cF : CompF a b n m c F) (sB : SoundB a b n m (c - 1) G) (cB : CompB a b n m (c - 1) G) (far : 2 * c - 1 ≤ D a b n m) (hodd : ((n : Int) - m) % 2 ≠ 0 → 2 * c + 1 ≤ D a b n m) :
    match bRow a b n m c F G s with
    | .error (some r, _) => Good a b n m r
    | .error (none, s') => s' < 0
    | .ok (G', _) => IR a b n m (c + 1) F G' := by
  have h0 : IB a b n m c (min ((n : Int) - m + c) n) G := by
    refine ⟨fun k hk => ?_, cB, fun x y ho hd hlt => ?_, fun _ x y ho hd he => ?_⟩
    · have := sB k hk; exact ⟨this.1, this.2.1, this.2.2.1, by omega⟩
    · have := e_bound a b n m ho.xn ho.ym; have := ho.xn; have := ho.y0; omega
    · have := e_bound a b n m ho.xn ho.ym; have := ho.xn; have := ho.y0; omega
  have := sweep_law (step := fun k G s => bStep a b n m c k F G s) (I := IB a b n m c) (P := Good a b n m) (lo := max ((n : Int) - m - c) (-m)) (hi := min ((n : Int) - m + c) n)
    (fun k G s h1 h2 hI => bStep_law hI sF cF far (by omega) (by omega)) (min ((n : Int) - m + c) n - max ((n : Int) - m - c) (-m) + 1).toNat (min ((n : Int) - m + c) n) G s (by omega) (by omega) h0
  unfold bRow
  revert this
  cases sweep (fun k G s => bStep a b n m c k F G s) (min ((n : Int) - m + c) n - max ((n : Int) - m - c) (-m) + 1).toNat (min ((n : Int) - m + c) n) G s with
  | error r => obtain ⟨o, s'⟩ := r; cases o <;> exact id
  | ok p =>
    obtain ⟨G', s'⟩ := p
    intro this
    obtain ⟨i1, i2, i3, i4⟩ := this
    rw [show c = c + 1 - 1 by omega] at sF cF
    refine ⟨sF, cF, by rw [show c + 1 - 1 = c by omega]; exact i1, fun x y ho hd => ?_, ?_⟩
    · rw [show c + 1 - 1 = c by omega] at hd
      by_cases hc : e a b n m x y = c
      · have := e_bound a b n m ho.xn ho.ym; have := ho.x0; have := ho.ym
        exact i3 x y ho hc (by omega)
      · exact i2 x y ho (by omega)
    · have hpD : (D a b n m - ((n : Int) - m)) % 2 = 0 := d_parity a b n m
      by_cases hp : ((n : Int) - m) % 2 = 0
      · rcases Int.lt_or_le (D a b n m) (2 * (c + 1) - 1) with hlt | hle
        · exfalso
          obtain ⟨x, y, ho, hd⟩ := opt_at (a := a) (b := b) (n := n) (m := m) c hc0 (by omega)
          have heq := ho.eq
          have h1 := i4 hp x y ho (by omega) hd
          have := e_bound a b n m ho.xn ho.ym; have := ho.x0; have := ho.ym
          omega
        · exact hle
      · have := hodd hp; omega

theorem rounds_law (j : Nat) : ∀ (c : Int) (F G : Int → Int) (s : Int), 0 ≤ c → IR a b n m c F G → (n : Int) + m + 1 ≤ 2 * (c + j) - 1 →
    match rounds a b n m j c F G s with
    | (some r, _) => Good a b n m r
    | (none, s') => s' < 0 := by
  induction j with
  | zero =>
    intro c F G s hc hI hj
    have := hI.far
    have hb := d_bound a b (x := n) (y := m) (by omega) (by omega)
    unfold D at this
    omega
  | succ j ih =>
    intro c F G s hc hI hj
    have h1 := fRow_law (s := s) hc hI
    simp only [rounds]
    revert h1
    cases fRow a b n m c G F s with
    | error r => obtain ⟨o, s'⟩ := r; cases o <;> exact id
    | ok p =>
      obtain ⟨F', s'⟩ := p
      rintro ⟨h1, h2, h3⟩
      have h4 := bRow_law (s := s') hc h1 h2 hI.sB hI.cB hI.far h3
      simp only []
      revert h4
      cases bRow a b n m c F' G s' with
      | error r => obtain ⟨o, s'⟩ := r; cases o <;> exact id
      | ok p =>
        obtain ⟨G', s''⟩ := p
        intro h4
        exact ih (c + 1) F' G' s'' (by omega) h4 (by omega)

/-- THE LAW OF THE SEARCH: what it finds is good; it gives up only where the budget is overdrawn. -/
theorem ms_law (a b : Nat → Int) (n m : Nat) (s : Int) : match ms a b n m s with
    | (some r, _) => Good a b n m r
    | (none, s') => s' < 0 := by
  refine rounds_law _ 0 _ _ s (by omega) ⟨fun k hk => by omega, fun x y ho hd => ?_, fun k hk => by omega, fun x y ho hd => ?_, ?_⟩ (by omega)
  · have := d_bound a b ho.x0 ho.y0; omega
  · have := e_bound a b n m ho.xn ho.ym; omega
  · have := d_bound a b (x := n) (y := m) (by omega) (by omega); unfold D; omega

/-! the budget -/
theorem fStep_more {c k : Int} {G F : Int → Int} {s t : Int} (ht : 0 ≤ t) :
    match fStep a b n m c k G F s with
    | .error (some r, s') => fStep a b n m c k G F (s + t) = .error (some r, s' + t)
    | .error (none, _) => True
    | .ok (F', s') => fStep a b n m c k G F (s + t) = .ok (F', s' + t) := by
  unfold fStep
  by_cases h1 : (k + c) % 2 ≠ 0
  · simp only [if_pos h1]
  · simp only [if_neg h1]
    by_cases h2 : s - 1 < 0
    · simp only [if_pos h2]
    · simp only [if_neg h2, if_neg (show ¬ s + t - 1 < 0 by omega)]
      by_cases h3 : stF n m c k F < 0
      · simp only [if_pos h3]; rw [show s + t - 1 = s - 1 + t by omega]
      · simp only [if_neg h3]
        generalize stF (↑n) (↑m) c k F = X
        generalize snF a b (↑n) (↑m) k n X = X'
        rw [show s + t - 1 - (X' - X) = s - 1 - (X' - X) + t by omega]
        by_cases h4 : ((n : Int) - m) % 2 ≠ 0 ∧ (n : Int) - m - (c - 1) ≤ k ∧ k ≤ (n : Int) - m + (c - 1) ∧ 0 ≤ G k ∧ G k ≤ X'
        · simp only [if_pos h4]
        · simp only [if_neg h4]

theorem bStep_more {c k : Int} {G F : Int → Int} {s t : Int} (ht : 0 ≤ t) :
    match bStep a b n m c k F G s with
    | .error (some r, s') => bStep a b n m c k F G (s + t) = .error (some r, s' + t)
    | .error (none, _) => True
    | .ok (G', s') => bStep a b n m c k F G (s + t) = .ok (G', s' + t) := by
  unfold bStep
  by_cases h1 : (k - ((n : Int) - m) + c) % 2 ≠ 0
  · simp only [if_pos h1]
  · simp only [if_neg h1]
    by_cases h2 : s - 1 < 0
    · simp only [if_pos h2]
    · simp only [if_neg h2, if_neg (show ¬ s + t - 1 < 0 by omega)]
      by_cases h3 : n < stB n m c k G
      · simp only [if_pos h3]; rw [show s + t - 1 = s - 1 + t by omega]
      · simp only [if_neg h3]
        generalize stB (↑n) (↑m) c k G = X
        generalize snB a b k n X = X'
        rw [show s + t - 1 - (X - X') = s - 1 - (X - X') + t by omega]
        by_cases h4 : ((n : Int) - m) % 2 = 0 ∧ -c ≤ k ∧ k ≤ c ∧ X' ≤ F k
        · simp only [if_pos h4]
        · simp only [if_neg h4]

theorem sweep_more {step : Int → (Int → Int) → Int → Except Res ((Int → Int) × Int)} {t : Int}
    (hstep : ∀ k F s, match step k F s with
      | .error (some r, s') => step k F (s + t) = .error (some r, s' + t)
      | .error (none, _) => True
      | .ok (F', s') => step k F (s + t) = .ok (F', s' + t)) (j : Nat) : ∀ k F s, match sweep step j k F s with
      | .error (some r, s') => sweep step j k F (s + t) = .error (some r, s' + t)
      | .error (none, _) => True
      | .ok (F', s') => sweep step j k F (s + t) = .ok (F', s' + t) := by
  induction j with
  | zero => intro k F s; simp [sweep]
  | succ j ih =>
    intro k F s
    have h3 := hstep k F s
    simp only [sweep]
    cases hst : step k F s with
    | error r =>
      rw [hst] at h3
      obtain ⟨o, s'⟩ := r
      cases o with
      | none => trivial
      | some r => simp only [] at h3 ⊢; rw [h3]
    | ok p =>
      obtain ⟨F', s'⟩ := p
      rw [hst] at h3
      simp only [] at h3 ⊢
      rw [h3]
      exact ih (k - 1) F' s'

theorem rounds_more {t : Int} (ht : 0 ≤ t) (j : Nat) : ∀ (c : Int) (F G : Int → Int) (s : Int), match rounds a b n m j c F G s with
    | (some r, s') => rounds a b n m j c F G (s + t) = (some r, s' + t)
    | (none, _) => True := by
  induction j with
  | zero => intro c F G s; simp [rounds]
  | succ j ih =>
    intro c F G s
    have h1 := sweep_more (step := fun k F s => fStep a b n m c k G F s) (t := t) (fun k F s => fStep_more ht) (min c n - max (-c) (-m) + 1).toNat (min c n) F s
    have h1' : match fRow a b n m c G F s with
      | .error (some r, s') => fRow a b n m c G F (s + t) = .error (some r, s' + t)
      | .error (none, _) => True
      | .ok (F', s') => fRow a b n m c G F (s + t) = .ok (F', s' + t) := h1
    clear h1
    simp only [rounds]
    revert h1'
    cases hf : fRow a b n m c G F s with
    | error r =>
      obtain ⟨o, s'⟩ := r
      cases o with
      | none => intro _; trivial
      | some r => intro h; simp only [] at h ⊢; rw [h]
    | ok p =>
      obtain ⟨F', s'⟩ := p
      intro h
      simp only [] at h ⊢
      rw [h]
      have h2 := sweep_more (step := fun k G s => bStep a b n m c k F' G s) (t := t) (fun k G s => bStep_more ht) (min ((n : Int) - m + c) n - max ((n : Int) - m - c) (-m) + 1).toNat (min ((n : Int) - m + c) n) G s'
      have h2' : match bRow a b n m c F' G s' with
        | .error (some r, s1) => bRow a b n m c F' G (s' + t) = .error (some r, s1 + t)
        | .error (none, _) => True
        | .ok (G', s'') => bRow a b n m c F' G (s' + t) = .ok (G', s'' + t) := by
          revert h2
          unfold bRow
          cases sweep (fun k G s => bStep a b n m c k F' G s) (min ((n : Int) - m + c) n - max ((n : Int) - m - c) (-m) + 1).toNat (min ((n : Int) - m + c) n) G s' with
          | error r => obtain ⟨o, s1⟩ := r; cases o <;> exact id
          | ok p => exact id
      clear h2
      simp only []
      revert h2'
      cases hb : bRow a b n m c F' G s' with
      | error r =>
        obtain ⟨o, s'⟩ := r
        cases o with
        | none => intro _; trivial
        | some r => intro h; simp only [] at h ⊢; rw [h]
      | ok p =>
        obtain ⟨G', s''⟩ := p
        intro h
        simp only [] at h ⊢
        rw [h]
        exact ih (c + 1) F' G' s''

/-- THE LAW OF THE BUDGET -/
theorem ms_more (a b : Nat → Int) (n m : Nat) (s t : Int) (ht : 0 ≤ t) : match ms a b n m s with
    | (some r, s') => ms a b n m (s + t) = (some r, s' + t)
    | (none, _) => True := rounds_more ht _ 0 _ _ s
end

end Go.Proofs.Qxb6601687a.My
