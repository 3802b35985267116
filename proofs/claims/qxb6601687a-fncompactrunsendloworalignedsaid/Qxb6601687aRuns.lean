/-
  RUNS OF MARKED LINES, PLAIN: what 'compact' keeps up. No Go in sight.
-/
namespace Go.Proofs.Qxb6601687a.Cm
set_option linter.unusedVariables false

/-- unmarked among the first k -/
def un (c : Nat → Bool) : Nat → Nat
  | 0 => 0
  | k + 1 => un c k + (if c k = true then 0 else 1)

theorem un_on {c : Nat → Bool} {k : Nat} (h : c k = true) : un c (k + 1) = un c k := by simp [un, h]
theorem un_off {c : Nat → Bool} {k : Nat} (h : c k = false) : un c (k + 1) = un c k + 1 := by simp [un, h]
theorem un_le (c : Nat → Bool) (k : Nat) : un c k ≤ k := by
  induction k with
  | zero => exact Nat.le_refl _
  | succ k ih => simp only [un]; split <;> omega
theorem un_mono {c : Nat → Bool} {i j : Nat} (h : i ≤ j) : un c i ≤ un c j := by
  induction j with
  | zero => obtain rfl : i = 0 := by omega
            exact Nat.le_refl _
  | succ j ih =>
    by_cases e : i = j + 1
    · subst e; exact Nat.le_refl _
    · have := ih (by omega)
      simp only [un]; omega
theorem un_congr {c d : Nat → Bool} {k : Nat} (h : ∀ i, i < k → c i = d i) : un c k = un d k := by
  induction k with
  | zero => rfl
  | succ k ih => simp only [un]; rw [ih (fun i hi => h i (by omega)), h k (by omega)]
/-- a stretch of marks -/
theorem un_run {c : Nat → Bool} {s e : Nat} (hse : s ≤ e) (h : ∀ i, s ≤ i → i < e → c i = true) : un c e = un c s := by
  induction e with
  | zero => obtain rfl : s = 0 := by omega
            rfl
  | succ e ih =>
    by_cases x : s = e + 1
    · subst x; rfl
    · rw [un_on (h e (by omega) (by omega)), ih (by omega) (fun i h1 h2 => h i h1 (by omega))]
/-- from a place where two counts agree on, alike marks keep them alike -/
theorem un_from {c d : Nat → Bool} {s : Nat} (h0 : un c s = un d s) (n : Nat) (hn : s ≤ n) (h : ∀ i, s ≤ i → i < n → c i = d i) : un c n = un d n := by
  induction n with
  | zero => obtain rfl : s = 0 := by omega
            exact h0
  | succ n ih =>
    by_cases x : s = n + 1
    · subst x; exact h0
    · simp only [un]; rw [ih (by omega) (fun i h1 h2 => h i h1 (by omega)), h n (by omega) (by omega)]

structure Run (n : Nat) (c : Nat → Bool) (a b : Nat) : Prop where
  lt : a < b
  le : b ≤ n
  on : ∀ i, a ≤ i → i < b → c i = true
  top : a = 0 ∨ c (a - 1) = false
  bot : b = n ∨ c b = false

/-- every run that ends at s or above is low, or aligned -/
def Good (n : Nat) (l : Nat → Int) (S : Nat → Bool) (c : Nat → Bool) (s : Nat) : Prop :=
  ∀ a b, Run n c a b → b ≤ s → b = n ∨ l a ≠ l b ∨ S (un c a) = true

structure Env where
  (n F : Nat)
  (l : Nat → Int)
  (S : Nat → Bool)

structure Core (E : Env) (r0 : Nat) (c : Nat → Bool) (s e : Nat) : Prop where
  lt : s < e
  le : e ≤ E.n
  on : ∀ i, s ≤ i → i < e → c i = true
  good : Good E.n E.l E.S c s
  tot : un c E.n = E.F
  mks : r0 + un c e < e

def Top (c : Nat → Bool) (s : Nat) : Prop := s = 0 ∨ c (s - 1) = false
def Bot (n : Nat) (c : Nat → Bool) (e : Nat) : Prop := e = n ∨ c e = false

/-- line i marked b -/
def put (c : Nat → Bool) (i : Nat) (b : Bool) : Nat → Bool := fun j => if j = i then b else c j
theorem put_at (c : Nat → Bool) (i : Nat) (b : Bool) : put c i b i = b := by simp [put]
theorem put_ne {c : Nat → Bool} {i j : Nat} {b : Bool} (h : j ≠ i) : put c i b j = c j := by simp [put, h]

theorem Core.absorb_up {E : Env} {r0 : Nat} {c : Nat → Bool} {s e : Nat} (h : Core E r0 c s e) (h0 : 0 < s) (h1 : c (s - 1) = true) : Core E r0 c (s - 1) e :=
  ⟨by have := h.lt; omega, h.le, fun i a b => by
      by_cases x : i = s - 1
      · subst x; exact h1
      · exact h.on i (by omega) b, fun a b r hb => h.good a b r (by omega), h.tot, h.mks⟩
theorem un_up {c : Nat → Bool} {s : Nat} (h0 : 0 < s) (h1 : c (s - 1) = true) : un c (s - 1) = un c s := by
  have := un_on h1
  rw [show s - 1 + 1 = s by omega] at this
  exact this.symm
theorem un_up_off {c : Nat → Bool} {s : Nat} (h0 : 0 < s) (h1 : c (s - 1) = false) : un c s = un c (s - 1) + 1 := by
  have := un_off h1
  rw [show s - 1 + 1 = s by omega] at this
  exact this

theorem Core.absorb_down {E : Env} {r0 : Nat} {c : Nat → Bool} {s e : Nat} (h : Core E r0 c s e) (h0 : e < E.n) (h1 : c e = true) : Core E r0 c s (e + 1) :=
  ⟨by have := h.lt; omega, h0, fun i a b => by
      by_cases x : i = e
      · subst x; exact h1
      · exact h.on i a (by omega), h.good, h.tot, by rw [un_on h1]; have := h.mks; omega⟩

/-- the marks after a step up -/
def up (c : Nat → Bool) (s e : Nat) : Nat → Bool := put (put c (s - 1) true) (e - 1) false
/-- the marks after a step down -/
def down (c : Nat → Bool) (s e : Nat) : Nat → Bool := put (put c s false) e true

theorem up_below {c : Nat → Bool} {s e : Nat} (h : s < e) (h0 : 0 < s) {i : Nat} (hi : i < s - 1) : up c s e i = c i := by
  unfold up; rw [put_ne (by omega), put_ne (by omega)]
theorem up_top {c : Nat → Bool} {s e : Nat} (h : s < e) (h0 : 0 < s) : up c s e (s - 1) = true := by
  unfold up; rw [put_ne (by omega), put_at]
theorem up_mid {c : Nat → Bool} {s e : Nat} (h0 : 0 < s) {i : Nat} (h1 : s ≤ i) (h2 : i < e - 1) : up c s e i = c i := by
  unfold up; rw [put_ne (by omega), put_ne (by omega)]
theorem up_bot {c : Nat → Bool} {s e : Nat} : up c s e (e - 1) = false := put_at _ _ _
theorem up_past {c : Nat → Bool} {s e : Nat} (h : s < e) {i : Nat} (h2 : e ≤ i) : up c s e i = c i := by
  unfold up; rw [put_ne (by omega), put_ne (by omega)]
theorem un_up_top {c : Nat → Bool} {s e : Nat} (h : s < e) (h0 : 0 < s) {i : Nat} (hi : i ≤ s - 1) : un (up c s e) i = un c i :=
  un_congr fun j hj => up_below h h0 (by omega)

theorem Core.up {E : Env} {r0 : Nat} {c : Nat → Bool} {s e : Nat} (h : Core E r0 c s e) (h0 : 0 < s) (h1 : c (s - 1) = false) :
    Core E r0 (Cm.up c s e) (s - 1) (e - 1) ∧ Bot E.n (Cm.up c s e) (e - 1) ∧ un (Cm.up c s e) (s - 1) + 1 = un c s := by
  have hlt := h.lt
  have hle := h.le
  have hon : ∀ i, s - 1 ≤ i → i < e - 1 → Cm.up c s e i = true := fun i a b => by
    by_cases x : i = s - 1
    · subst x; exact up_top hlt h0
    · rw [up_mid h0 (by omega) b]; exact h.on i (by omega) (by omega)
  have u1 := un_up_top (c := c) hlt h0 (Nat.le_refl _)
  have u2 := un_up_off h0 h1
  have u3 := un_run (c := Cm.up c s e) (s := s - 1) (e := e - 1) (by omega) hon
  have u4 := un_run (c := c) (s := s) (e := e) (by omega) h.on
  have u5 : un (Cm.up c s e) e = un (Cm.up c s e) (e - 1) + 1 := un_up_off (by omega) up_bot
  refine ⟨⟨by omega, by omega, hon, ?_, ?_, ?_⟩, .inr up_bot, by omega⟩
  · intro a b r hb
    have hb2 : b < s - 1 := by
      rcases r.bot with x | x
      · omega
      · rcases Nat.lt_or_ge b (s - 1) with y | y
        · exact y
        · obtain rfl : b = s - 1 := by omega
          rw [up_top hlt h0] at x; exact absurd x (by simp)
    have hr : Run E.n c a b := ⟨r.lt, r.le, fun i p q => by rw [← up_below (e := e) (c := c) hlt h0 (by omega)]; exact r.on i p q, by
        rcases r.top with x | x
        · exact .inl x
        · have := r.lt; rw [up_below hlt h0 (by omega)] at x; exact .inr x, by
        rcases r.bot with x | x
        · exact .inl x
        · rw [up_below hlt h0 (by omega)] at x; exact .inr x⟩
    have := h.good a b hr (by omega)
    rw [un_up_top hlt h0 (by have := r.lt; omega)]
    exact this
  · rw [← h.tot]
    exact un_from (s := e) (by omega) _ hle (fun i a b => up_past hlt a)
  · have := h.mks; omega

theorem down_below {c : Nat → Bool} {s e : Nat} (h : s < e) {i : Nat} (hi : i < s) : down c s e i = c i := by
  unfold down; rw [put_ne (by omega), put_ne (by omega)]
theorem down_top {c : Nat → Bool} {s e : Nat} (h : s < e) : down c s e s = false := by
  unfold down; rw [put_ne (by omega), put_at]
theorem down_mid {c : Nat → Bool} {s e : Nat} {i : Nat} (h1 : s < i) (h2 : i < e) : down c s e i = c i := by
  unfold down; rw [put_ne (by omega), put_ne (by omega)]
theorem down_bot {c : Nat → Bool} {s e : Nat} : down c s e e = true := put_at _ _ _
theorem down_past {c : Nat → Bool} {s e : Nat} (h : s < e) {i : Nat} (h2 : e < i) : down c s e i = c i := by
  unfold down; rw [put_ne (by omega), put_ne (by omega)]
theorem un_down {c : Nat → Bool} {s e : Nat} (h : s < e) {i : Nat} (hi : i ≤ s) : un (down c s e) i = un c i :=
  un_congr fun j hj => down_below h (by omega)

theorem Core.down {E : Env} {r0 : Nat} {c : Nat → Bool} {s e : Nat} (h : Core E r0 c s e) (ht : Top c s) (h0 : e < E.n) (h1 : c e = false) :
    Core E r0 (Cm.down c s e) (s + 1) (e + 1) ∧ Top (Cm.down c s e) (s + 1) ∧ un (Cm.down c s e) (s + 1) = un c s + 1 := by
  have hlt := h.lt
  have hon : ∀ i, s + 1 ≤ i → i < e + 1 → Cm.down c s e i = true := fun i a b => by
    by_cases x : i = e
    · subst x; exact down_bot
    · rw [down_mid (by omega) (by omega)]; exact h.on i (by omega) (by omega)
  have u1 : un (Cm.down c s e) (s + 1) = un c s + 1 := by rw [un_off (down_top hlt), un_down hlt (Nat.le_refl _)]
  have u3 := un_run (c := Cm.down c s e) (s := s + 1) (e := e + 1) (by omega) hon
  have u4 := un_run (c := c) (s := s) (e := e) (by omega) h.on
  have u5 := un_off h1
  refine ⟨⟨by omega, h0, hon, ?_, ?_, ?_⟩, .inr (down_top hlt), u1⟩
  · intro a b r hb
    have rl := r.lt
    have hb1 : b ≤ s := by
      rcases Nat.lt_or_ge s b with y | y
      · obtain rfl : b = s + 1 := by omega
        have := r.on s (by omega) (by omega)
        rw [down_top hlt] at this; exact absurd this (by simp)
      · exact y
    have hb2 : b < s := by
      rcases Nat.lt_or_ge b s with y | y
      · exact y
      · obtain rfl : b = s := by omega
        rcases ht with x | x
        · omega
        · have := r.on (b - 1) (by omega) (by omega)
          rw [down_below hlt (by omega), x] at this; exact absurd this (by simp)
    have hr : Run E.n c a b := ⟨r.lt, r.le, fun i p q => by rw [← down_below (e := e) (c := c) hlt (by omega)]; exact r.on i p q, by
        rcases r.top with x | x
        · exact .inl x
        · rw [down_below hlt (by omega)] at x; exact .inr x, by
        rcases r.bot with x | x
        · exact .inl x
        · rw [down_below hlt (by omega)] at x; exact .inr x⟩
    have := h.good a b hr (by omega)
    rw [un_down hlt (by omega)]
    exact this
  · rw [← h.tot]
    exact un_from (s := e + 1) (by omega) _ h0 (fun i a b => down_past hlt (by omega))
  · have := h.mks; omega

/-- the place at al, that the run can be brought back to -/
structure Hist (E : Env) (c : Nat → Bool) (s e al p : Nat) : Prop where
  ps : p ≤ s
  al_ : al = p + (e - s)
  off : ∀ i, p ≤ i → i < s → c i = false
  top : Top c p
  slot : E.S (un c p) = true

theorem Hist.here {E : Env} {c : Nat → Bool} {s e : Nat} (h : s ≤ e) (ht : Top c s) (hs : E.S (un c s) = true) : Hist E c s e e s :=
  ⟨Nat.le_refl _, by omega, fun i a b => by omega, ht, hs⟩
theorem Hist.down {E : Env} {c : Nat → Bool} {s e al p : Nat} (hlt : s < e) (h : Hist E c s e al p) : Hist E (Cm.down c s e) (s + 1) (e + 1) al p := by
  have hps := h.ps
  refine ⟨by omega, by have := h.al_; omega, fun i a b => ?_, ?_, ?_⟩
  · by_cases x : i = s
    · subst x; exact down_top hlt
    · rw [down_below hlt (by omega)]; exact h.off i a (by omega)
  · rcases h.top with x | x
    · exact .inl x
    · by_cases y : p = 0
      · exact .inl y
      · exact .inr (by rw [down_below hlt (by omega)]; exact x)
  · rw [un_down hlt hps]; exact h.slot
theorem Hist.up {E : Env} {c : Nat → Bool} {s e al p : Nat} (hlt : s < e) (hp : p < s) (h : Hist E c s e al p) : Hist E (Cm.up c s e) (s - 1) (e - 1) al p := by
  refine ⟨by omega, by have := h.al_; omega, fun i a b => ?_, ?_, ?_⟩
  · rw [up_below hlt (by omega) (by omega)]; exact h.off i a (by omega)
  · rcases h.top with x | x
    · exact .inl x
    · by_cases y : p = 0
      · exact .inl y
      · exact .inr (by rw [up_below hlt (by omega) (by omega)]; exact x)
  · rw [un_up_top hlt (by omega) (by omega)]; exact h.slot

/-- the run is done with -/
theorem Core.done {E : Env} {r0 : Nat} {c : Nat → Bool} {s e : Nat} (h : Core E r0 c s e) (ht : Top c s) (hb : Bot E.n c e) (hl : e = E.n ∨ E.l s ≠ E.l e ∨ E.S (un c s) = true) : Good E.n E.l E.S c e := by
  intro a b r hbe
  have rl := r.lt
  have hlt := h.lt
  rcases Nat.lt_or_ge s b with y | y
  · have e1 : b = e := by
      rcases Nat.lt_or_ge b e with z | z
      · rcases r.bot with x | x
        · have := h.le; omega
        · rw [h.on b (by omega) z] at x; exact absurd x (by simp)
      · omega
    have e2 : a = s := by
      rcases Nat.lt_or_ge a s with z | z
      · rcases ht with x | x
        · omega
        · rw [r.on (s - 1) (by omega) (by omega)] at x; exact absurd x (by simp)
      · rcases Nat.lt_or_ge s a with z2 | z2
        · rcases r.top with x | x
          · omega
          · rw [h.on (a - 1) (by omega) (by omega)] at x; exact absurd x (by simp)
        · omega
    subst e1 e2
    exact hl
  · exact h.good a b r y

/-- the lines are gone through down to s -/
structure Out (E : Env) (c : Nat → Bool) (s : Nat) : Prop where
  le : s ≤ E.n
  good : Good E.n E.l E.S c s
  tot : un c E.n = E.F
  edge : c s = true → s < E.n → Top c s

theorem Out.start {E : Env} {c : Nat → Bool} (h : un c E.n = E.F) : Out E c 0 :=
  ⟨Nat.zero_le _, fun a b r hb => by have := r.lt; omega, h, fun _ _ => .inl rfl⟩
theorem Out.next {E : Env} {c : Nat → Bool} {s : Nat} (h : Out E c s) (hs : s < E.n) (h0 : c s = false) : Out E c (s + 1) :=
  ⟨hs, fun a b r hb => by
      rcases Nat.lt_or_ge s b with y | y
      · obtain rfl : b = s + 1 := by omega
        have := r.on s (by have := r.lt; omega) (by omega)
        rw [h0] at this; exact absurd this (by simp)
      · exact h.good a b r y, h.tot, fun _ _ => .inr (by simpa using h0)⟩
/-- a run found -/
theorem Out.run {E : Env} {c : Nat → Bool} {s e : Nat} (h : Out E c s) (hse : s < e) (he : e ≤ E.n) (hon : ∀ i, s ≤ i → i < e → c i = true) : Core E (s - un c s) c s e ∧ Top c s :=
  ⟨⟨hse, he, hon, h.good, h.tot, by rw [un_run (by omega) hon]; have := un_le c s; omega⟩, h.edge (hon s (Nat.le_refl _) hse) (by omega)⟩
theorem Core.out {E : Env} {r0 : Nat} {c : Nat → Bool} {s e : Nat} (h : Core E r0 c s e) (ht : Top c s) (hb : Bot E.n c e) (hl : e = E.n ∨ E.l s ≠ E.l e ∨ E.S (un c s) = true) : Out E c e :=
  ⟨h.le, h.done ht hb hl, h.tot, fun h1 h2 => by
    rcases hb with x | x
    · omega
    · rw [x] at h1; exact absurd h1 (by simp)⟩
/-- what is left to go through -/
def left (E : Env) (c : Nat → Bool) (s : Nat) : Nat := (E.n - E.F - (s - un c s)) * (E.n + 1) + (E.n - s)
theorem marks_le {n k : Nat} (c : Nat → Bool) (h : k ≤ n) : k - un c k ≤ n - un c n := by
  induction n with
  | zero => obtain rfl : k = 0 := by omega
            exact Nat.le_refl _
  | succ n ih =>
    by_cases e : k = n + 1
    · subst e; exact Nat.le_refl _
    · have h1 := ih (by omega)
      have h2 := un_le c n
      simp only [un]; split <;> omega
theorem left_next {E : Env} {c : Nat → Bool} {s : Nat} (hs : s < E.n) (h0 : c s = false) : left E c (s + 1) < left E c s := by
  unfold left
  rw [un_off h0, show s + 1 - (un c s + 1) = s - un c s by omega]
  omega
theorem left_run {E : Env} {c c' : Nat → Bool} {s s' e' : Nat} (h : Core E (s - un c s) c' s' e') (hs : s ≤ E.n) : left E c' e' < left E c s := by
  unfold left
  have h1 := h.mks
  have h2 := marks_le c' h.le
  rw [h.tot] at h2
  have h3 := h.le
  obtain ⟨x, hx⟩ : ∃ x, E.n - E.F - (e' - un c' e') = x := ⟨_, rfl⟩
  obtain ⟨y, hy⟩ : ∃ y, E.n - E.F - (s - un c s) = y := ⟨_, rfl⟩
  rw [hx, hy]
  have : x + 1 ≤ y := by omega
  have := Nat.mul_le_mul_right (E.n + 1) this
  rw [Nat.add_mul] at this
  omega

/-- the other file's marks: a change after exactly k unmarked lines, among the first m -/
def sl (o : Nat → Bool) : Nat → Nat → Bool
  | 0, _ => false
  | m + 1, k => sl o m k || (o m && un o m == k)

theorem sl_far {o : Nat → Bool} {m k : Nat} (h : un o m < k) : sl o m k = false := by
  induction m with
  | zero => rfl
  | succ m ih =>
    have : un o m ≤ un o (m + 1) := un_mono (c := o) (Nat.le_succ m)
    simp only [sl]
    rw [ih (by omega)]
    have : (un o m == k) = false := by simp; omega
    simp [this]
theorem sl_on {o : Nat → Bool} {m : Nat} (h : o m = true) : sl o (m + 1) (un o (m + 1)) = true := by
  rw [un_on h]; simp [sl, h]
theorem sl_keep {o : Nat → Bool} {m k : Nat} (h : k ≠ un o m) : sl o (m + 1) k = sl o m k := by
  have : (un o m == k) = false := by simp; omega
  simp [sl, this]
theorem sl_off {o : Nat → Bool} {m k : Nat} (h : o m = false) : sl o (m + 1) k = sl o m k := by simp [sl, h]
theorem sl_new {o : Nat → Bool} {m : Nat} (h : o m = false) : sl o (m + 1) (un o (m + 1)) = false := by
  rw [sl_off h]; exact sl_far (by rw [un_off h]; omega)
theorem sl_true {o : Nat → Bool} {m i k : Nat} (hi : i < m) (h1 : o i = true) (h2 : un o i = k) : sl o m k = true := by
  induction m with
  | zero => omega
  | succ m ih =>
    by_cases x : i = m
    · subst x; simp [sl, h1, h2]
    · simp [sl, ih (by omega)]

/-- what the law's own loop looks for -/
theorem Good.no {n : Nat} {l : Nat → Int} {S c : Nat → Bool} {a b : Nat} (h : Good n l S c n) (r : Run n c a b) (hb : b < n) (he : l a = l b) : S (un c a) = true := by
  rcases h a b r r.le with x | x | x
  · omega
  · exact absurd he x
  · exact x
end Go.Proofs.Qxb6601687a.Cm
