/-
  zzIsShortestScript (function 15): the loops and the contract.
-/
import Derived.Test.Qxb6601687aScrA
namespace Go.Proofs.Qxb6601687a
open Go.RowKit
set_option linter.unusedVariables false
set_option linter.unusedSimpArgs false

theorem My.K_head (A : Nat → Int) (g : Nat → Bool) (i n : Nat) : My.K A g i (n + 1) = (if g i = true then [] else [A i]) ++ My.K A g (i + 1) n := by
  rw [Nat.add_comm n 1, My.K_add]; simp [My.K]
theorem My.C_head (g : Nat → Bool) (i n : Nat) : My.C g i (n + 1) = (if g i = true then 1 else 0) + My.C g (i + 1) n := by
  rw [Nat.add_comm n 1, My.C_add]; simp [My.C]
theorem My.KC_on {A : Nat → Int} {g : Nat → Bool} {i e : Nat} (h : i < e) (hc : g i = true) : My.K A g i (e - i) = My.K A g (i + 1) (e - (i + 1)) ∧ My.C g i (e - i) = 1 + My.C g (i + 1) (e - (i + 1)) := by
  have e1 : e - i = (e - (i + 1)) + 1 := by omega
  rw [e1, My.K_head, My.C_head, if_pos hc, if_pos hc]; exact ⟨rfl, rfl⟩
theorem My.KC_off {A : Nat → Int} {g : Nat → Bool} {i e : Nat} (h : i < e) (hc : g i = false) : My.K A g i (e - i) = A i :: My.K A g (i + 1) (e - (i + 1)) ∧ My.C g i (e - i) = My.C g (i + 1) (e - (i + 1)) := by
  have e1 : e - i = (e - (i + 1)) + 1 := by omega
  rw [e1, My.K_head, My.C_head, hc]; simp
theorem My.KC_none {A : Nat → Int} {g : Nat → Bool} {i e : Nat} (h : e ≤ i) : My.K A g i (e - i) = [] ∧ My.C g i (e - i) = 0 := by
  rw [show e - i = 0 by omega]; exact ⟨rfl, rfl⟩

theorem results16 {fn : Func} (h : fn.results = #[.tmp 16]) (tmps : Array Value) (P : Program) (w : World) : (results fn tmps).run P w = .ok (tmps.getD 16 undef) w := by
  simp [results, h]
theorem t0 : sub2 [] (bodyOf Try.f15) = .seq (sub2 [false] (bodyOf Try.f15)) (sub2 [true] (bodyOf Try.f15)) := by kernel_rfl
theorem t1 : sub2 [true] (bodyOf Try.f15) = .seq (sub2 [true, false] (bodyOf Try.f15)) (sub2 [true, true] (bodyOf Try.f15)) := by kernel_rfl
theorem t1l : sub2 [true, false] (bodyOf Try.f15) = .seq (sub2 [true, false, false] (bodyOf Try.f15)) (sub2 [true, false, true] (bodyOf Try.f15)) := by kernel_rfl
theorem t1b : sub2 [true, false, true] (bodyOf Try.f15) = .block 0 (sub2 [true, false, true, false] (bodyOf Try.f15)) := by kernel_rfl
theorem t1o : sub2 [true, false, true, false] (bodyOf Try.f15) = .loop (sub2 [true, false, true, false, false] (bodyOf Try.f15)) := by kernel_rfl
theorem t2 : sub2 [true, true] (bodyOf Try.f15) = .seq (sub2 [true, true, false] (bodyOf Try.f15)) (sub2 [true, true, true] (bodyOf Try.f15)) := by kernel_rfl
theorem t2l : sub2 [true, true, false] (bodyOf Try.f15) = .seq (sub2 [true, true, false, false] (bodyOf Try.f15)) (sub2 [true, true, false, true] (bodyOf Try.f15)) := by kernel_rfl
theorem t2b : sub2 [true, true, false, true] (bodyOf Try.f15) = .block 2 (sub2 [true, true, false, true, false] (bodyOf Try.f15)) := by kernel_rfl
theorem t2o : sub2 [true, true, false, true, false] (bodyOf Try.f15) = .loop (sub2 [true, true, false, true, false, false] (bodyOf Try.f15)) := by kernel_rfl
theorem t3 : sub2 [true, true, true] (bodyOf Try.f15) = .seq (sub2 [true, true, true, false] (bodyOf Try.f15)) (sub2 [true, true, true, true] (bodyOf Try.f15)) := by kernel_rfl
theorem t4 : sub2 [true, true, true, true] (bodyOf Try.f15) = .seq (sub2 [true, true, true, true, false] (bodyOf Try.f15)) (sub2 [true, true, true, true, true] (bodyOf Try.f15)) := by kernel_rfl
theorem t5 : sub2 [true, true, true, true, true] (bodyOf Try.f15) = .seq (sub2 [true, true, true, true, true, false] (bodyOf Try.f15)) (sub2 [true, true, true, true, true, true] (bodyOf Try.f15)) := by kernel_rfl
theorem t5b : sub2 [true, true, true, true, true, false] (bodyOf Try.f15) = .block 4 (sub2 [true, true, true, true, true, false, false] (bodyOf Try.f15)) := by kernel_rfl
theorem t5o : sub2 [true, true, true, true, true, false, false] (bodyOf Try.f15) = .loop (sub2 [true, true, true, true, true, false, false, false] (bodyOf Try.f15)) := by kernel_rfl
theorem t5c : sub2 [true, true, true, true, true, false, false, false] (bodyOf Try.f15) = .block 5 (sub2 [true, true, true, true, true, false, false, false, false] (bodyOf Try.f15)) := by kernel_rfl
theorem x5 : sub2 [true, true, true, true, true, false, false, false, false] (bodyOf Try.f15) = .seq (sub2 [true, true, true, true, true, false, false, false, false, false] (bodyOf Try.f15)) (sub2 [true, true, true, true, true, false, false, false, false, true] (bodyOf Try.f15)) := by kernel_rfl
theorem x5b : sub2 [true, true, true, true, true, false, false, false, false, false] (bodyOf Try.f15) = .block 6 (sub2 [true, true, true, true, true, false, false, false, false, false, false] (bodyOf Try.f15)) := by kernel_rfl
theorem x5o : sub2 [true, true, true, true, true, false, false, false, false, false, false] (bodyOf Try.f15) = .loop (sub2 [true, true, true, true, true, false, false, false, false, false, false, false] (bodyOf Try.f15)) := by kernel_rfl
theorem x5r : sub2 [true, true, true, true, true, false, false, false, false, true] (bodyOf Try.f15) = .seq (sub2 [true, true, true, true, true, false, false, false, false, true, false] (bodyOf Try.f15)) (sub2 [true, true, true, true, true, false, false, false, false, true, true] (bodyOf Try.f15)) := by kernel_rfl
theorem x5c : sub2 [true, true, true, true, true, false, false, false, false, true, false] (bodyOf Try.f15) = .block 8 (sub2 [true, true, true, true, true, false, false, false, false, true, false, false] (bodyOf Try.f15)) := by kernel_rfl
theorem x5d : sub2 [true, true, true, true, true, false, false, false, false, true, false, false] (bodyOf Try.f15) = .loop (sub2 [true, true, true, true, true, false, false, false, false, true, false, false, false] (bodyOf Try.f15)) := by kernel_rfl
theorem x5s : sub2 [true, true, true, true, true, false, false, false, false, true, true] (bodyOf Try.f15) = .seq (sub2 [true, true, true, true, true, false, false, false, false, true, true, false] (bodyOf Try.f15)) (sub2 [true, true, true, true, true, false, false, false, false, true, true, true] (bodyOf Try.f15)) := by kernel_rfl
theorem x5t : sub2 [true, true, true, true, true, false, false, false, false, true, true, true] (bodyOf Try.f15) = .seq (sub2 [true, true, true, true, true, false, false, false, false, true, true, true, false] (bodyOf Try.f15)) (sub2 [true, true, true, true, true, false, false, false, false, true, true, true, true] (bodyOf Try.f15)) := by kernel_rfl
theorem t6 : sub2 [true, true, true, true, true, true] (bodyOf Try.f15) = .seq (sub2 [true, true, true, true, true, true, false] (bodyOf Try.f15)) (sub2 [true, true, true, true, true, true, true] (bodyOf Try.f15)) := by kernel_rfl
theorem t7 : sub2 [true, true, true, true, true, true, true] (bodyOf Try.f15) = .seq (sub2 [true, true, true, true, true, true, true, false] (bodyOf Try.f15)) (sub2 [true, true, true, true, true, true, true, true] (bodyOf Try.f15)) := by kernel_rfl
theorem t8 : sub2 [true, true, true, true, true, true, true, true] (bodyOf Try.f15) = .ret := by kernel_rfl

structure S15 (Y : Y15) (a : Act) (m i j : Nat) : Prop where
  F : F15 Y a
  h19 : get a 19 = .int .i64 (m : Int)
  h20 : get a 20 = .int .i64 (i : Int)
  h21 : get a 21 = .int .i64 (j : Int)


theorem chk0 {Y : Y15} {w : World} {Q : Exit → Act → World → Prop} (mem : M15 Y w) (od : ∀ i, i < Y.la → Y.dl i = true → Y.i0 ≤ i ∧ i < Y.i1) (f : Nat) : ∀ (a : Act) (k : Nat), F15 Y a → get a 17 = .int .i64 (k : Int) → Y.la - k ≤ f →
    (∀ a', F15 Y a' → Q (.exit 0) a' w) → Code.rounds Try.prog (sub2 [true, false, true, false, false] (bodyOf Try.f15)) Q (f + 1) a w := by
  induction f with
  | zero =>
    intro a k F h hk hQ
    rw [rounds_succ]
    exact u2_out F h mem (by omega) (fun a' F' => hQ a' F')
  | succ f ih =>
    intro a k F h hk hQ
    rw [rounds_succ]
    by_cases hl : Y.la ≤ k
    · exact u2_out F h mem hl (fun a' F' => hQ a' F')
    · cases hc : Y.dl k
      · refine u2_off F h mem (by omega) hc ?_
        intro a' F' h'
        exact ih a' (k + 1) F' h' (by omega) hQ
      · obtain ⟨o1, o2⟩ := od k (by omega) hc
        refine u2_on F h mem (by omega) hc o1 o2 ?_
        intro a' F' h'
        exact ih a' (k + 1) F' h' (by omega) hQ

theorem chk2 {Y : Y15} {w : World} {Q : Exit → Act → World → Prop} (mem : M15 Y w) (od : ∀ i, i < Y.lb → Y.il i = true → Y.j0 ≤ i ∧ i < Y.j1) (f : Nat) : ∀ (a : Act) (k : Nat), F15 Y a → get a 18 = .int .i64 (k : Int) → Y.lb - k ≤ f →
    (∀ a', F15 Y a' → Q (.exit 2) a' w) → Code.rounds Try.prog (sub2 [true, true, false, true, false, false] (bodyOf Try.f15)) Q (f + 1) a w := by
  induction f with
  | zero =>
    intro a k F h hk hQ
    rw [rounds_succ]
    exact u7_out F h mem (by omega) (fun a' F' => hQ a' F')
  | succ f ih =>
    intro a k F h hk hQ
    rw [rounds_succ]
    by_cases hl : Y.lb ≤ k
    · exact u7_out F h mem hl (fun a' F' => hQ a' F')
    · cases hc : Y.il k
      · refine u7_off F h mem (by omega) hc ?_
        intro a' F' h'
        exact ih a' (k + 1) F' h' (by omega) hQ
      · obtain ⟨o1, o2⟩ := od k (by omega) hc
        refine u7_on F h mem (by omega) hc o1 o2 ?_
        intro a' F' h'
        exact ih a' (k + 1) F' h' (by omega) hQ

theorem skip6 {Y : Y15} {w : World} {j : Nat} {Q : Exit → Act → World → Prop} (mem : M15 Y w) (f : Nat) : ∀ (a : Act) (m i : Nat), S15 Y a m i j → i ≤ Y.i1 → Y.i1 - i ≤ f → m + My.C Y.dl i (Y.i1 - i) ≤ 4096 →
    (∀ a' m' i', S15 Y a' m' i' j → i' ≤ Y.i1 → i ≤ i' → My.K Y.A Y.dl i' (Y.i1 - i') = My.K Y.A Y.dl i (Y.i1 - i) → m' + My.C Y.dl i' (Y.i1 - i') = m + My.C Y.dl i (Y.i1 - i) → (i' = Y.i1 ∨ Y.dl i' = false) → Q (.exit 6) a' w) →
    Code.rounds Try.prog (sub2 [true, true, true, true, true, false, false, false, false, false, false, false] (bodyOf Try.f15)) Q (f + 1) a w := by
  induction f with
  | zero =>
    intro a m i A hi hk hm hQ
    rw [rounds_succ]
    refine u13_end A.F A.h19 A.h20 A.h21 mem (by omega) ?_
    intro a' F h19 h20 h21
    exact hQ a' m i ⟨F, h19, h20, h21⟩ hi (Nat.le_refl _) rfl rfl (.inl (by omega))
  | succ f ih =>
    intro a m i A hi hk hm hQ
    rw [rounds_succ]
    by_cases hl : Y.i1 ≤ i
    · refine u13_end A.F A.h19 A.h20 A.h21 mem hl ?_
      intro a' F h19 h20 h21
      exact hQ a' m i ⟨F, h19, h20, h21⟩ hi (Nat.le_refl _) rfl rfl (.inl (by omega))
    · cases hc : Y.dl i
      · refine u13_out A.F A.h19 A.h20 A.h21 mem (by omega) hc ?_
        intro a' F h19 h20 h21
        exact hQ a' m i ⟨F, h19, h20, h21⟩ hi (Nat.le_refl _) rfl rfl (.inr hc)
      · obtain ⟨e1, e2⟩ := My.KC_on (A := Y.A) (show i < Y.i1 by omega) hc
        refine u13_in A.F A.h19 A.h20 A.h21 mem (by omega) hc (by omega) ?_
        intro a' F h19 h20 h21
        refine ih a' (m + 1) (i + 1) ⟨F, h19, h20, h21⟩ (by omega) (by omega) (by omega) ?_
        intro a2 m2 i2 A2 g1 g2 g3 g4 g5
        exact hQ a2 m2 i2 A2 g1 (by omega) (by rw [g3, e1]) (by rw [g4, e2]; omega) g5

theorem skip8 {Y : Y15} {w : World} {i : Nat} {Q : Exit → Act → World → Prop} (mem : M15 Y w) (f : Nat) : ∀ (a : Act) (m j : Nat), S15 Y a m i j → j ≤ Y.j1 → Y.j1 - j ≤ f → m + My.C Y.il j (Y.j1 - j) ≤ 4096 →
    (∀ a' m' j', S15 Y a' m' i j' → j' ≤ Y.j1 → j ≤ j' → My.K Y.B Y.il j' (Y.j1 - j') = My.K Y.B Y.il j (Y.j1 - j) → m' + My.C Y.il j' (Y.j1 - j') = m + My.C Y.il j (Y.j1 - j) → (j' = Y.j1 ∨ Y.il j' = false) → Q (.exit 8) a' w) →
    Code.rounds Try.prog (sub2 [true, true, true, true, true, false, false, false, false, true, false, false, false] (bodyOf Try.f15)) Q (f + 1) a w := by
  induction f with
  | zero =>
    intro a m j A hi hk hm hQ
    rw [rounds_succ]
    refine u16_end A.F A.h19 A.h20 A.h21 mem (by omega) ?_
    intro a' F h19 h20 h21
    exact hQ a' m j ⟨F, h19, h20, h21⟩ hi (Nat.le_refl _) rfl rfl (.inl (by omega))
  | succ f ih =>
    intro a m j A hi hk hm hQ
    rw [rounds_succ]
    by_cases hl : Y.j1 ≤ j
    · refine u16_end A.F A.h19 A.h20 A.h21 mem hl ?_
      intro a' F h19 h20 h21
      exact hQ a' m j ⟨F, h19, h20, h21⟩ hi (Nat.le_refl _) rfl rfl (.inl (by omega))
    · cases hc : Y.il j
      · refine u16_out A.F A.h19 A.h20 A.h21 mem (by omega) hc ?_
        intro a' F h19 h20 h21
        exact hQ a' m j ⟨F, h19, h20, h21⟩ hi (Nat.le_refl _) rfl rfl (.inr hc)
      · obtain ⟨e1, e2⟩ := My.KC_on (A := Y.B) (show j < Y.j1 by omega) hc
        refine u16_in A.F A.h19 A.h20 A.h21 mem (by omega) hc (by omega) ?_
        intro a' F h19 h20 h21
        refine ih a' (m + 1) (j + 1) ⟨F, h19, h20, h21⟩ (by omega) (by omega) (by omega) ?_
        intro a2 m2 i2 A2 g1 g2 g3 g4 g5
        exact hQ a2 m2 i2 A2 g1 (by omega) (by rw [g3, e1]) (by rw [g4, e2]; omega) g5

set_option maxHeartbeats 1000000 in
theorem merge_one {Y : Y15} {T f : Nat} {Q : Exit → Act → World → Prop} (a : Act) (w : World) (m i j : Nat) (A : S15 Y a m i j) (mem : M15 Y w) (hi : i ≤ Y.i1) (hj : j ≤ Y.j1) (hK : My.K Y.A Y.dl i (Y.i1 - i) = My.K Y.B Y.il j (Y.j1 - j)) (hC : m + My.C Y.dl i (Y.i1 - i) + My.C Y.il j (Y.j1 - j) = T) (hT : T ≤ 4096)
    (hR : ∀ a' q m' i' j', S15 Y a' m' i' j' → i < i' → i' ≤ Y.i1 → j' ≤ Y.j1 → My.K Y.A Y.dl i' (Y.i1 - i') = My.K Y.B Y.il j' (Y.j1 - j') → m' + My.C Y.dl i' (Y.i1 - i') + My.C Y.il j' (Y.j1 - j') = T → Code.rounds Try.prog (sub2 [true, true, true, true, true, false, false, false] (bodyOf Try.f15)) Q f a' (w.drewN q))
    (hQ : ∀ a', S15 Y a' T Y.i1 Y.j1 → Q (.exit 4) a' w) :
    Code.rounds Try.prog (sub2 [true, true, true, true, true, false, false, false] (bodyOf Try.f15)) Q (f + 1) a w := by
  have zla := mem.la
  have zlb := mem.lb
  have zi1 := mem.i1
  have zj1 := mem.j1
  rw [rounds_succ, t5c]
  refine wp_block ?_
  rw [x5]
  refine wp_seq ?_
  rw [x5b]
  refine wp_block ?_
  rw [x5o]
  refine wp_loop_rounds (Y.i1 - i + 1) ?_
  refine skip6 mem (Y.i1 - i) a m i A hi (Nat.le_refl _) (by omega) ?_
  intro a1 m1 i1 A1 hi1 hi2 hK1 hC1 hd1
  show Code.wp Try.prog (sub2 [true, true, true, true, true, false, false, false, false, true] (bodyOf Try.f15)) _ a1 w
  rw [x5r]
  refine wp_seq ?_
  rw [x5c]
  refine wp_block ?_
  rw [x5d]
  refine wp_loop_rounds (Y.j1 - j + 1) ?_
  refine skip8 mem (Y.j1 - j) a1 m1 j A1 hj (Nat.le_refl _) (by omega) ?_
  intro a2 m2 j2 A2 hj1 hj2 hK2 hC2 hd2
  have hK' : My.K Y.A Y.dl i1 (Y.i1 - i1) = My.K Y.B Y.il j2 (Y.j1 - j2) := by rw [hK1, hK2, hK]
  have hC' : m2 + My.C Y.dl i1 (Y.i1 - i1) + My.C Y.il j2 (Y.j1 - j2) = T := by omega
  show Code.wp Try.prog (sub2 [true, true, true, true, true, false, false, false, false, true, true] (bodyOf Try.f15)) _ a2 w
  rw [x5s]
  refine wp_seq ?_
  by_cases h1 : i1 = Y.i1
  · have n1 := My.KC_none (A := Y.A) (g := Y.dl) (show Y.i1 ≤ i1 by omega)
    have h2 : j2 = Y.j1 := by
      by_cases x : j2 = Y.j1
      · exact x
      · have n2 := My.KC_off (A := Y.B) (g := Y.il) (show j2 < Y.j1 by omega) (by rcases hd2 with y | y; exact absurd y x; exact y)
        rw [n1.1, n2.1] at hK'
        exact absurd hK' (by simp)
    have n2 := My.KC_none (A := Y.B) (g := Y.il) (show Y.j1 ≤ j2 by omega)
    rw [n1.2, n2.2] at hC'
    refine u19_end A2.F A2.h19 A2.h20 A2.h21 mem h1 ?_
    intro a3 F h19 h20 h21
    obtain rfl : m2 = T := by omega
    subst h1 h2
    exact hQ a3 ⟨F, h19, h20, h21⟩
  · have n1 := My.KC_off (A := Y.A) (g := Y.dl) (show i1 < Y.i1 by omega) (by rcases hd1 with y | y; exact absurd y h1; exact y)
    have h2 : j2 ≠ Y.j1 := by
      intro x
      have n2 := My.KC_none (A := Y.B) (g := Y.il) (show Y.j1 ≤ j2 by omega)
      rw [n1.1, n2.1] at hK'
      exact absurd hK' (by simp)
    have n2 := My.KC_off (A := Y.B) (g := Y.il) (show j2 < Y.j1 by omega) (by rcases hd2 with y | y; exact absurd y h2; exact y)
    rw [n1.1, n2.1] at hK'
    rw [n1.2, n2.2] at hC'
    obtain ⟨k1, k2⟩ := List.cons.inj hK'
    refine u19_on A2.F A2.h19 A2.h20 A2.h21 mem h1 h2 ?_
    intro a3 F h19 h20 h21
    show Code.wp Try.prog (sub2 [true, true, true, true, true, false, false, false, false, true, true, true] (bodyOf Try.f15)) _ a3 w
    rw [x5t]
    refine wp_seq ?_
    refine u20 F h19 h20 h21 mem (by omega) (by omega) k1 ?_
    clear F h19 h20 h21
    intro a4 q F h19 h20 h21
    show Code.wp Try.prog (sub2 [true, true, true, true, true, false, false, false, false, true, true, true, true] (bodyOf Try.f15)) _ a4 (w.drewN q)
    refine u22 F h19 h20 h21 (mem.drewN q) (by omega) (by omega) ?_
    clear F h19 h20 h21
    intro a5 F h19 h20 h21
    exact hR a5 q m2 (i1 + 1) (j2 + 1) ⟨F, h19, h20, h21⟩ (by omega) (by omega) (by omega) k2 hC'

theorem merge4 {Y : Y15} {T : Nat} {Q : Exit → Act → World → Prop} (hT : T ≤ 4096) (f : Nat) : ∀ (a : Act) (w : World) (m i j : Nat), S15 Y a m i j → M15 Y w → i ≤ Y.i1 → j ≤ Y.j1 → Y.i1 - i ≤ f → My.K Y.A Y.dl i (Y.i1 - i) = My.K Y.B Y.il j (Y.j1 - j) → m + My.C Y.dl i (Y.i1 - i) + My.C Y.il j (Y.j1 - j) = T →
    (∀ a' q, S15 Y a' T Y.i1 Y.j1 → Q (.exit 4) a' (w.drewN q)) →
    Code.rounds Try.prog (sub2 [true, true, true, true, true, false, false, false] (bodyOf Try.f15)) Q (f + 1) a w := by
  induction f with
  | zero =>
    intro a w m i j A mem hi hj hk hK hC hQ
    exact merge_one a w m i j A mem hi hj hK hC hT (fun a' q m' i' j' _ h1 h2 => by omega) (fun a' A' => hQ a' 0 A')
  | succ f ih =>
    intro a w m i j A mem hi hj hk hK hC hQ
    refine merge_one a w m i j A mem hi hj hK hC hT (fun a' q m' i' j' A' h1 h2 h3 h4 h5 => ?_) (fun a' A' => hQ a' 0 A')
    refine ih a' (w.drewN q) m' i' j' A' (mem.drewN q) h2 h3 (by omega) h4 h5 ?_
    intro a2 q2 A2
    rw [World.drewN_drewN]
    exact hQ a2 _ A2
set_option maxHeartbeats 1000000 in
set_option maxRecDepth 100000 in
theorem u26 {Y : Y15} {a : Act} {w : World} {m : Nat} {Q : Exit → Act → World → Prop} (hF : F15 Y a) (h19 : get a 19 = .int .i64 (m : Int)) (mem : M15 Y w) (hm : (m : Int) = (My.dist Y.A Y.B Y.i0 Y.i1 Y.j0 Y.j1))
    (hQ : Hid (∀ a' w', a'.defers = [] → get a' 16 = .bool true → Below w.heap.size w w' → Q .normal a' w')) :
    Code.wp Try.prog (sub2 [true, true, true, true, true, true, true, false] (bodyOf Try.f15)) Q a w := by
  refine Code.wp_mono (Q := Nm (fun a' w' => a'.defers = [] ∧ get a' 16 = .bool true ∧ Below w.heap.size w w')) ?_ ?_
  · intro e a' w' h
    cases e
    case normal => obtain ⟨h1, h2, h3⟩ := h; exact hQ.out a' w' h1 h2 h3
    all_goals exact h.elim
  conv => arg 2; whnf
  obtain ⟨hd, hs, g0, g1, g2, g3, g4, g5, g6, g7⟩ := hF
  have zla := mem.la
  have zlb := mem.lb
  have zi0 := mem.i0
  have zi1 := mem.i1
  have zj0 := mem.j0
  have zj1 := mem.j1
  have MEM : Hid (M15 Y w) := mem
  have sA := mem.a_
  have sB := mem.b_
  clear mem hQ
  have b1 : (Y.i0 : Int) ≤ (Y.i1 : Int) := by omega
  have b2 : (Y.i1 : Int) ≤ (Y.la : Int) := by omega
  have b3 : (Y.j0 : Int) ≤ (Y.j1 : Int) := by omega
  have b4 : (Y.j1 : Int) ≤ (Y.lb : Int) := by omega
  have WF : Hid (∀ aa ba ca cb, (0 < Y.i1 - Y.i0 → aa = some ⟨Y.ab, Y.i0, none⟩) → (0 < Y.j1 - Y.j0 → ba = some ⟨Y.bb, Y.j0, none⟩) → ∀ w', Below w.heap.size w w' →
      Calls Try.prog 22 #[.slice aa (Y.i1 - Y.i0) ca, .slice ba (Y.j1 - Y.j0) cb] w' fun e w'' => e = .returned (.int .i64 (My.dist Y.A Y.B Y.i0 Y.i1 Y.j0 Y.j1)) ∧ Below w.heap.size w w'') := by
    intro aa ba ca cb h1 h2 w' hb
    have ia := MEM.out.ia.of_below hb
    have ib := MEM.out.ib.of_below hb
    have rx : Rd w' aa Y.ab Y.i0 (Y.i1 - Y.i0) (fun i => Y.A (Y.i0 + i)) := ⟨h1, fun h => ia.lt (by omega), fun i hi => ia.cells _ (by omega), by omega⟩
    have ry : Rd w' ba Y.bb Y.j0 (Y.j1 - Y.j0) (fun i => Y.B (Y.j0 + i)) := ⟨h2, fun h => ib.lt (by omega), fun i hi => ib.cells _ (by omega), by omega⟩
    refine (dist_any { ax := aa, ay := ba, bx := Y.ab, ox := Y.i0, by_ := Y.bb, oy := Y.j0, lx := (Y.i1 - Y.i0), cx := ca, ly := (Y.j1 - Y.j0), cy := cb, B0 := w'.heap.size, f := fun i => Y.A (Y.i0 + i), g := fun i => Y.B (Y.j0 + i) } w' rx ry rfl).mono ?_
    rintro e w'' ⟨rfl, hb2⟩
    exact ⟨rfl, hb.trans (hb2.mono hb.size)⟩
  have AA : Hid (0 < Y.i1 - Y.i0 → (if Y.la = Y.i0 then Y.aa else Y.aa.map (·.add (Y.i0))) = some ⟨Y.ab, Y.i0, none⟩) := by
    intro h
    rcases sA with ⟨h1, h2⟩ | h1
    · exact absurd h2 (by omega)
    · rw [if_neg (by omega), h1]; simp [Addr.add] <;> omega
  have BA : Hid (0 < Y.j1 - Y.j0 → (if Y.lb = Y.j0 then Y.ba else Y.ba.map (·.add (Y.j0))) = some ⟨Y.bb, Y.j0, none⟩) := by
    intro h
    rcases sB with ⟨h1, h2⟩ | h1
    · exact absurd h2 (by omega)
    · rw [if_neg (by omega), h1]; simp [Addr.add] <;> omega
  rw [← hm] at WF
  have hmm : ((m : Int) == (m : Int)) = true := by simp
  rw [lit15 a hd hs]
  generalize get a = g at *
  simp only [g0, g1, g2, g3, g4, g5, g6, g7, h19]
  clear hd hs g0 g1 g2 g3 g4 g5 g6 g7 h19 sA sB hm
  generalize (m : Int) = rr at *
  go_region_with (go_at_call 22; refine (WF.out _ _ _ _ AA.out BA.out _ ?_).mono ?_; exact ⟨rfl, rfl, rfl, Nat.le_refl _, fun _ _ => rfl⟩; rintro e w' ⟨rfl, hb⟩; generalize (if Y.la = Y.i0 then Y.aa else Option.map (fun x => x.add (Y.i0)) Y.aa) = za at *; generalize (if Y.lb = Y.j0 then Y.ba else Option.map (fun x => x.add (Y.j0)) Y.ba) = zb at *)
  exact ⟨rfl, rfl, hb⟩

set_option maxHeartbeats 1000000 in
set_option maxRecDepth 100000 in
theorem script15 (Y : Y15) (w : World) (mem : M15 Y w) (od : ∀ i, i < Y.la → Y.dl i = true → Y.i0 ≤ i ∧ i < Y.i1) (oi : ∀ j, j < Y.lb → Y.il j = true → Y.j0 ≤ j ∧ j < Y.j1)
    (hK : My.K Y.A Y.dl Y.i0 (Y.i1 - Y.i0) = My.K Y.B Y.il Y.j0 (Y.j1 - Y.j0)) (hC : ((My.C Y.dl Y.i0 (Y.i1 - Y.i0) : Nat) : Int) + ((My.C Y.il Y.j0 (Y.j1 - Y.j0) : Nat) : Int) = (My.dist Y.A Y.B Y.i0 Y.i1 Y.j0 Y.j1)) (hT : My.C Y.dl Y.i0 (Y.i1 - Y.i0) + My.C Y.il Y.j0 (Y.j1 - Y.j0) ≤ 4096) :
    Calls Try.prog 15 #[.slice Y.aa Y.la Y.la, .slice Y.ba Y.lb Y.lb, .slice (some ⟨Y.db, 0, none⟩) Y.la Y.la, .slice (some ⟨Y.ib, 0, none⟩) Y.lb Y.lb, .int .i64 (Y.i0 : Int), .int .i64 (Y.i1 : Int), .int .i64 (Y.j0 : Int), .int .i64 (Y.j1 : Int)] w fun e w' => e = .returned (.bool true) ∧ Below w.heap.size w w' := by
  refine calls_of_wp (c := sub2 [] (bodyOf Try.f15)) Try.func15 (by kernel_rfl) ?_
  rw [t0]
  refine wp_seq ?_
  refine u0 (Y := Y) ⟨rfl, by rw [Try.ntmps15]; exact start_size _ _ (by show 8 ≤ 130; omega), start_get _ _ 0 _ rfl, start_get _ _ 1 _ rfl, start_get _ _ 2 _ rfl, start_get _ _ 3 _ rfl, start_get _ _ 4 _ rfl, start_get _ _ 5 _ rfl, start_get _ _ 6 _ rfl, start_get _ _ 7 _ rfl⟩ mem ?_
  intro a F
  show Code.wp Try.prog (sub2 [true] (bodyOf Try.f15)) _ a w
  rw [t1]
  refine wp_seq ?_
  rw [t1l]
  refine wp_seq ?_
  refine u1 F mem ?_
  clear F a
  intro a F h17
  show Code.wp Try.prog (sub2 [true, false, true] (bodyOf Try.f15)) _ a w
  rw [t1b]
  refine wp_block ?_
  rw [t1o]
  refine wp_loop_rounds (Y.la + 1) ?_
  refine chk0 mem od Y.la a 0 F h17 (by omega) ?_
  clear F a h17
  intro a F
  show Code.wp Try.prog (sub2 [true, true] (bodyOf Try.f15)) _ a w
  rw [t2]
  refine wp_seq ?_
  rw [t2l]
  refine wp_seq ?_
  refine u6 F mem ?_
  clear F a
  intro a F h18
  show Code.wp Try.prog (sub2 [true, true, false, true] (bodyOf Try.f15)) _ a w
  rw [t2b]
  refine wp_block ?_
  rw [t2o]
  refine wp_loop_rounds (Y.lb + 1) ?_
  refine chk2 mem oi Y.lb a 0 F h18 (by omega) ?_
  clear F a h18
  intro a F
  show Code.wp Try.prog (sub2 [true, true, true] (bodyOf Try.f15)) _ a w
  rw [t3]
  refine wp_seq ?_
  refine u11 F mem ?_
  clear F a
  intro a F h19
  show Code.wp Try.prog (sub2 [true, true, true, true] (bodyOf Try.f15)) _ a w
  rw [t4]
  refine wp_seq ?_
  refine u12 (m := 0) F h19 mem ?_
  clear F a h19
  intro a F h19 h20 h21
  show Code.wp Try.prog (sub2 [true, true, true, true, true] (bodyOf Try.f15)) _ a w
  rw [t5]
  refine wp_seq ?_
  rw [t5b]
  refine wp_block ?_
  rw [t5o]
  refine wp_loop_rounds (Y.i1 - Y.i0 + 1) ?_
  refine merge4 hT (Y.i1 - Y.i0) a w 0 Y.i0 Y.j0 ⟨F, h19, h20, h21⟩ mem mem.i0 mem.j0 (Nat.le_refl _) hK (by omega) ?_
  clear F a h19 h20 h21
  intro a q A
  show Code.wp Try.prog (sub2 [true, true, true, true, true, true] (bodyOf Try.f15)) _ a (w.drewN q)
  rw [t6]
  refine wp_seq ?_
  refine u24 A.F A.h19 A.h20 A.h21 (mem.drewN q) rfl rfl ?_
  clear A a
  intro a F h19
  show Code.wp Try.prog (sub2 [true, true, true, true, true, true, true] (bodyOf Try.f15)) _ a (w.drewN q)
  rw [t7]
  refine wp_seq ?_
  refine u26 F h19 (mem.drewN q) (by rw [← hC]; omega) ?_
  clear F a h19
  intro a w' hd h16 hb
  show Code.wp Try.prog (sub2 [true, true, true, true, true, true, true, true] (bodyOf Try.f15)) _ a w'
  rw [t8]
  refine wp_ret ?_
  refine bodyPost_ret (v := .bool true) ?_ hd ⟨rfl, hb.os, hb.tape, hb.output, hb.size, hb.block⟩
  rw [results16 rfl]; unfold get at h16; rw [h16]
end Go.Proofs.Qxb6601687a
