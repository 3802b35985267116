/-
  THE WALK OF compare (function 32), part 2: its loops; the rows of the search are made.
-/
import Derived.Test.Qxb6601687aCompA
namespace Go.Proofs.Qxb6601687a
open Go.RowKit
set_option linter.unusedVariables false
set_option linter.unusedSimpArgs false

/-- only the struct and the marks have turned -/
structure Kp (C : C32) (w w' : World) : Prop where
  os : w'.os = w.os
  tape : w'.tape = w.tape
  output : w'.output = w.output
  size : w'.heap.size = w.heap.size
  block : ∀ k, k ≠ C.pd → k ≠ C.db → k ≠ C.ib → w'.heap[k]? = w.heap[k]?
theorem Kp.refl (C : C32) (w : World) : Kp C w w := ⟨rfl, rfl, rfl, rfl, fun _ _ _ _ => rfl⟩
theorem Kp.trans {C : C32} {a b c : World} (h : Kp C a b) (k : Kp C b c) : Kp C a c :=
  ⟨k.os.trans h.os, k.tape.trans h.tape, k.output.trans h.output, k.size.trans h.size, fun i h1 h2 h3 => (k.block i h1 h2 h3).trans (h.block i h1 h2 h3)⟩
theorem Kp.drewN {C : C32} {a w : World} (h : Kp C a w) (n : Nat) : Kp C a (w.drewN n) := ⟨h.os, h.tape, h.output, h.size, h.block⟩
theorem Kp.setCell {C : C32} {a w : World} (h : Kp C a w) {p : Addr} (hp : p.block = C.pd ∨ p.block = C.db ∨ p.block = C.ib) (u : Value) : Kp C a (w.setCell p u) :=
  h.trans ⟨rfl, rfl, rfl, by simp [World.setCell], fun k h1 h2 h3 => Below.heap_setCell _ _ _ _ (by omega)⟩
theorem Kp.sk {C : C32} {w w' : World} (h : Kp C w w') (fb gb : Nat) : Sk C fb gb w w' := ⟨h.os, h.tape, h.output, h.size, fun k h1 h2 h3 _ _ => h.block k h1 h2 h3⟩
theorem Al.kp {C : C32} {w w' : World} {fb gb N : Nat} (h : Al C w fb gb N) (k : Kp C w w') : Al C w' fb gb N := by
  obtain ⟨a1, a2, a3⟩ := h.ff
  obtain ⟨b1, b2, b3⟩ := h.gg
  exact ⟨⟨a1, (k.block fb h.f1.symm h.f4.symm h.f5.symm).trans a2, a3⟩, ⟨b1, (k.block gb h.g1.symm h.g4.symm h.g5.symm).trans b2, b3⟩, h.fg, h.f1, h.f2, h.f3, h.f4, h.f5, h.g1, h.g2, h.g3, h.g4, h.g5, h.NN⟩


theorem t1_rounds {C : C32} {dl il : Nat → Bool} {s : Int} {vf vg : Value} {Q : Exit → Act → World → Prop} (sz : Sz2 C) {i1 j1 : Nat} (f : Nat) : ∀ (a : Act) (w : World) (i0 j0 : Nat), Fy C a → get a 1 = .int .i64 (i0 : Nat) → get a 2 = .int .i64 (i1 : Nat) → get a 3 = .int .i64 (j0 : Nat) → get a 4 = .int .i64 (j1 : Nat) → M C w dl il s vf vg → i1 ≤ C.la → j1 ≤ C.lb → i1 - i0 ≤ f →
    (∀ a' w', Fy C a' → get a' 1 = .int .i64 ((My.trimL C.A C.B i1 j1 f i0 j0).1 : Nat) → get a' 2 = .int .i64 (i1 : Nat) → get a' 3 = .int .i64 ((My.trimL C.A C.B i1 j1 f i0 j0).2 : Nat) → get a' 4 = .int .i64 (j1 : Nat) → M C w' dl il s vf vg → Kp C w w' → Q (.exit 0) a' w') →
    Code.rounds Try.prog (sub2 [true, false, false, false] (bodyOf Try.f32)) Q (f + 1) a w := by
  have key : ∀ (f : Nat) (a : Act) (w : World) (i0 j0 : Nat), Fy C a → get a 1 = .int .i64 (i0 : Nat) → get a 2 = .int .i64 (i1 : Nat) → get a 3 = .int .i64 (j0 : Nat) → get a 4 = .int .i64 (j1 : Nat) → M C w dl il s vf vg → i1 ≤ C.la → j1 ≤ C.lb → ¬ (i0 < i1 ∧ j0 < j1 ∧ C.A i0 = C.B j0) →
      (∀ a' w', Fy C a' → get a' 1 = .int .i64 (i0 : Nat) → get a' 2 = .int .i64 (i1 : Nat) → get a' 3 = .int .i64 (j0 : Nat) → get a' 4 = .int .i64 (j1 : Nat) → M C w' dl il s vf vg → Kp C w w' → Q (.exit 0) a' w') →
      Code.rounds Try.prog (sub2 [true, false, false, false] (bodyOf Try.f32)) Q (f + 1) a w := by
    intro f a w i0 j0 hF h1 h2 h3 h4 mem hi hj hno hQ
    have go : Hid (∀ a' w', Fy C a' → get a' 1 = .int .i64 (i0 : Nat) → get a' 2 = .int .i64 (i1 : Nat) → get a' 3 = .int .i64 (j0 : Nat) → get a' 4 = .int .i64 (j1 : Nat) → (∃ nq, w' = w.drewN nq) → Q (.exit 0) a' w') := by
      rintro a' w' hF' k1 k2 k3 k4 ⟨nq, rfl⟩
      exact hQ a' _ hF' k1 k2 k3 k4 (mem.drewN nq) ((Kp.refl C w).drewN nq)
    rw [rounds_succ]
    by_cases q1 : i0 < i1
    · by_cases q2 : j0 < j1
      · refine t1_no3 sz hF h1 h2 h3 h4 mem hi hj q1 q2 ?_ go
        rw [beq_eq_false_iff_ne]
        exact fun he => hno ⟨q1, q2, he⟩
      · exact t1_no2 sz hF h1 h2 h3 h4 mem hi hj q1 (by omega) go
    · exact t1_no1 sz hF h1 h2 h3 h4 mem hi hj (by omega) go
  induction f with
  | zero =>
    intro a w i0 j0 hF h1 h2 h3 h4 mem hi hj hf hQ
    exact key 0 a w i0 j0 hF h1 h2 h3 h4 mem hi hj (by omega) hQ
  | succ f ih =>
    intro a w i0 j0 hF h1 h2 h3 h4 mem hi hj hf hQ
    by_cases hc : i0 < i1 ∧ j0 < j1 ∧ C.A i0 = C.B j0
    · have e : My.trimL C.A C.B i1 j1 (f + 1) i0 j0 = My.trimL C.A C.B i1 j1 f (i0 + 1) (j0 + 1) := by simp only [My.trimL]; rw [if_pos hc]
      rw [e] at hQ
      rw [rounds_succ]
      refine t1_yes sz hF h1 h2 h3 h4 mem hi hj hc.1 hc.2.1 (by rw [beq_iff_eq]; exact hc.2.2) ?_
      rintro a' w' hF' k1 k2 k3 k4 ⟨nq, rfl⟩
      refine ih a' _ (i0 + 1) (j0 + 1) hF' (k1.trans (congrArg (Value.int .i64) (by omega))) (k2.trans (congrArg (Value.int .i64) (by omega))) (k3.trans (congrArg (Value.int .i64) (by omega))) (k4.trans (congrArg (Value.int .i64) (by omega))) (mem.drewN nq) (by omega) (by omega) (by omega) ?_
      intro a2 w2 hF2 l1 l2 l3 l4 mem2 kp2
      exact hQ a2 w2 hF2 l1 l2 l3 l4 mem2 (((Kp.refl C w).drewN nq).trans kp2)
    · have e : My.trimL C.A C.B i1 j1 (f + 1) i0 j0 = (i0, j0) := by simp only [My.trimL]; rw [if_neg hc]
      rw [e] at hQ
      exact key (f + 1) a w i0 j0 hF h1 h2 h3 h4 mem hi hj hc hQ

theorem t2_rounds {C : C32} {dl il : Nat → Bool} {s : Int} {vf vg : Value} {Q : Exit → Act → World → Prop} (sz : Sz2 C) {i0 j0 : Nat} (f : Nat) : ∀ (a : Act) (w : World) (i1 j1 : Nat), Fy C a → get a 1 = .int .i64 (i0 : Nat) → get a 2 = .int .i64 (i1 : Nat) → get a 3 = .int .i64 (j0 : Nat) → get a 4 = .int .i64 (j1 : Nat) → M C w dl il s vf vg → i1 ≤ C.la → j1 ≤ C.lb → i1 - i0 ≤ f →
    (∀ a' w', Fy C a' → get a' 1 = .int .i64 (i0 : Nat) → get a' 2 = .int .i64 ((My.trimR C.A C.B i0 j0 f i1 j1).1 : Nat) → get a' 3 = .int .i64 (j0 : Nat) → get a' 4 = .int .i64 ((My.trimR C.A C.B i0 j0 f i1 j1).2 : Nat) → M C w' dl il s vf vg → Kp C w w' → Q (.exit 2) a' w') →
    Code.rounds Try.prog (sub2 [true, true, false, false, false] (bodyOf Try.f32)) Q (f + 1) a w := by
  have key : ∀ (f : Nat) (a : Act) (w : World) (i1 j1 : Nat), Fy C a → get a 1 = .int .i64 (i0 : Nat) → get a 2 = .int .i64 (i1 : Nat) → get a 3 = .int .i64 (j0 : Nat) → get a 4 = .int .i64 (j1 : Nat) → M C w dl il s vf vg → i1 ≤ C.la → j1 ≤ C.lb → ¬ (i0 < i1 ∧ j0 < j1 ∧ C.A (i1 - 1) = C.B (j1 - 1)) →
      (∀ a' w', Fy C a' → get a' 1 = .int .i64 (i0 : Nat) → get a' 2 = .int .i64 (i1 : Nat) → get a' 3 = .int .i64 (j0 : Nat) → get a' 4 = .int .i64 (j1 : Nat) → M C w' dl il s vf vg → Kp C w w' → Q (.exit 2) a' w') →
      Code.rounds Try.prog (sub2 [true, true, false, false, false] (bodyOf Try.f32)) Q (f + 1) a w := by
    intro f a w i1 j1 hF h1 h2 h3 h4 mem hi hj hno hQ
    have go : Hid (∀ a' w', Fy C a' → get a' 1 = .int .i64 (i0 : Nat) → get a' 2 = .int .i64 (i1 : Nat) → get a' 3 = .int .i64 (j0 : Nat) → get a' 4 = .int .i64 (j1 : Nat) → (∃ nq, w' = w.drewN nq) → Q (.exit 2) a' w') := by
      rintro a' w' hF' k1 k2 k3 k4 ⟨nq, rfl⟩
      exact hQ a' _ hF' k1 k2 k3 k4 (mem.drewN nq) ((Kp.refl C w).drewN nq)
    rw [rounds_succ]
    by_cases q1 : i0 < i1
    · by_cases q2 : j0 < j1
      · refine t2_no3 sz hF h1 h2 h3 h4 mem hi hj q1 q2 ?_ go
        rw [beq_eq_false_iff_ne]
        exact fun he => hno ⟨q1, q2, he⟩
      · exact t2_no2 sz hF h1 h2 h3 h4 mem hi hj q1 (by omega) go
    · exact t2_no1 sz hF h1 h2 h3 h4 mem hi hj (by omega) go
  induction f with
  | zero =>
    intro a w i1 j1 hF h1 h2 h3 h4 mem hi hj hf hQ
    exact key 0 a w i1 j1 hF h1 h2 h3 h4 mem hi hj (by omega) hQ
  | succ f ih =>
    intro a w i1 j1 hF h1 h2 h3 h4 mem hi hj hf hQ
    by_cases hc : i0 < i1 ∧ j0 < j1 ∧ C.A (i1 - 1) = C.B (j1 - 1)
    · have e : My.trimR C.A C.B i0 j0 (f + 1) i1 j1 = My.trimR C.A C.B i0 j0 f (i1 - 1) (j1 - 1) := by simp only [My.trimR]; rw [if_pos hc]
      rw [e] at hQ
      rw [rounds_succ]
      refine t2_yes sz hF h1 h2 h3 h4 mem hi hj hc.1 hc.2.1 (by rw [beq_iff_eq]; exact hc.2.2) ?_
      rintro a' w' hF' k1 k2 k3 k4 ⟨nq, rfl⟩
      refine ih a' _ (i1 - 1) (j1 - 1) hF' (k1.trans (congrArg (Value.int .i64) (by omega))) (k2.trans (congrArg (Value.int .i64) (by omega))) (k3.trans (congrArg (Value.int .i64) (by omega))) (k4.trans (congrArg (Value.int .i64) (by omega))) (mem.drewN nq) (by omega) (by omega) (by omega) ?_
      intro a2 w2 hF2 l1 l2 l3 l4 mem2 kp2
      exact hQ a2 w2 hF2 l1 l2 l3 l4 mem2 (((Kp.refl C w).drewN nq).trans kp2)
    · have e : My.trimR C.A C.B i0 j0 (f + 1) i1 j1 = (i1, j1) := by simp only [My.trimR]; rw [if_neg hc]
      rw [e] at hQ
      exact key (f + 1) a w i1 j1 hF h1 h2 h3 h4 mem hi hj hc hQ

theorem m3_rounds {C : C32} {il : Nat → Bool} {s : Int} {vf vg : Value} {Q : Exit → Act → World → Prop} (sz : Sz2 C) {i0 i1 j0 j1 : Nat} (k : Nat) : ∀ (a : Act) (w : World) (i : Nat) (dl : Nat → Bool), Fy C a → get a 1 = .int .i64 (i0 : Nat) → get a 2 = .int .i64 (i1 : Nat) → get a 3 = .int .i64 (j0 : Nat) → get a 4 = .int .i64 (j1 : Nat) → get a 11 = .int .i64 (i : Nat) → M C w dl il s vf vg → i1 ≤ C.la → i + k = i1 →
    (∀ a' w', Fy C a' → get a' 1 = .int .i64 (i0 : Nat) → get a' 2 = .int .i64 (i1 : Nat) → get a' 3 = .int .i64 (j0 : Nat) → get a' 4 = .int .i64 (j1 : Nat) → M C w' (My.mk dl i i1) il s vf vg → Kp C w w' → Q (.exit 4) a' w') →
    Code.rounds Try.prog (sub2 [true, true, true, false, true, false, false, true, false, false] (bodyOf Try.f32)) Q (k + 1) a w := by
  induction k with
  | zero =>
    intro a w i dl hF h1 h2 h3 h4 h5 mem hb hk hQ
    rw [rounds_succ]
    refine m3_out sz hF h1 h2 h3 h4 h5 (by omega) ?_
    intro a' hF' k1 k2 k3 k4
    refine hQ a' w hF' k1 k2 k3 k4 (mem.ext (fun t => ?_) (fun t => ?_)) (Kp.refl C w)
    all_goals first
      | rfl
      | (unfold My.mk; have e : (decide (i ≤ t) && decide (t < i1)) = false := by (rw [Bool.and_eq_false_iff]; simp only [decide_eq_false_iff_not]; omega)
         rw [e, Bool.or_false])
  | succ k ih =>
    intro a w i dl hF h1 h2 h3 h4 h5 mem hb hk hQ
    rw [rounds_succ]
    refine m3_in sz hF h1 h2 h3 h4 h5 mem (by omega) hb ?_
    intro a' hF' k1 k2 k3 k4 k5
    refine ih a' _ (i + 1) _ hF' k1 k2 k3 k4 (by rw [k5]; rfl) (mem.setDel sz i (by omega)) hb (by omega) ?_
    intro a2 w2 hF2 l1 l2 l3 l4 mem2 kp2
    refine hQ a2 w2 hF2 l1 l2 l3 l4 (mem2.ext (fun t => ?_) (fun t => ?_)) (((Kp.refl C w).setCell (.inr (.inl rfl)) _).trans kp2)
    all_goals first
      | rfl
      | (unfold My.mk
         by_cases ht : t = i
         · subst ht
           have e : (decide (t ≤ t) && decide (t < i1)) = true := by (simp; omega)
           simp [e]; omega
         · have e : (decide (i + 1 ≤ t) && decide (t < i1)) = (decide (i ≤ t) && decide (t < i1)) := by
             (rw [show decide (i + 1 ≤ t) = decide (i ≤ t) from decide_eq_decide.2 (by omega)])
           simp only [if_neg ht, e])

theorem m4_rounds {C : C32} {dl : Nat → Bool} {s : Int} {vf vg : Value} {Q : Exit → Act → World → Prop} (sz : Sz2 C) {i0 i1 j0 j1 : Nat} (k : Nat) : ∀ (a : Act) (w : World) (j : Nat) (il : Nat → Bool), Fy C a → get a 1 = .int .i64 (i0 : Nat) → get a 2 = .int .i64 (i1 : Nat) → get a 3 = .int .i64 (j0 : Nat) → get a 4 = .int .i64 (j1 : Nat) → get a 12 = .int .i64 (j : Nat) → M C w dl il s vf vg → j1 ≤ C.lb → j + k = j1 →
    (∀ a' w', Fy C a' → get a' 1 = .int .i64 (i0 : Nat) → get a' 2 = .int .i64 (i1 : Nat) → get a' 3 = .int .i64 (j0 : Nat) → get a' 4 = .int .i64 (j1 : Nat) → M C w' dl (My.mk il j j1) s vf vg → Kp C w w' → Q (.exit 6) a' w') →
    Code.rounds Try.prog (sub2 [true, true, true, false, true, false, true, false, true, false, false] (bodyOf Try.f32)) Q (k + 1) a w := by
  induction k with
  | zero =>
    intro a w j il hF h1 h2 h3 h4 h5 mem hb hk hQ
    rw [rounds_succ]
    refine m4_out sz hF h1 h2 h3 h4 h5 (by omega) ?_
    intro a' hF' k1 k2 k3 k4
    refine hQ a' w hF' k1 k2 k3 k4 (mem.ext (fun t => ?_) (fun t => ?_)) (Kp.refl C w)
    all_goals first
      | rfl
      | (unfold My.mk; have e : (decide (j ≤ t) && decide (t < j1)) = false := by (rw [Bool.and_eq_false_iff]; simp only [decide_eq_false_iff_not]; omega)
         rw [e, Bool.or_false])
  | succ k ih =>
    intro a w j il hF h1 h2 h3 h4 h5 mem hb hk hQ
    rw [rounds_succ]
    refine m4_in sz hF h1 h2 h3 h4 h5 mem (by omega) hb ?_
    intro a' hF' k1 k2 k3 k4 k5
    refine ih a' _ (j + 1) _ hF' k1 k2 k3 k4 (by rw [k5]; rfl) (mem.setIns sz j (by omega)) hb (by omega) ?_
    intro a2 w2 hF2 l1 l2 l3 l4 mem2 kp2
    refine hQ a2 w2 hF2 l1 l2 l3 l4 (mem2.ext (fun t => ?_) (fun t => ?_)) (((Kp.refl C w).setCell (.inr (.inr rfl)) _).trans kp2)
    all_goals first
      | rfl
      | (unfold My.mk
         by_cases ht : t = j
         · subst ht
           have e : (decide (t ≤ t) && decide (t < j1)) = true := by (simp; omega)
           simp [e]; omega
         · have e : (decide (j + 1 ≤ t) && decide (t < j1)) = (decide (j ≤ t) && decide (t < j1)) := by
             (rw [show decide (j + 1 ≤ t) = decide (j ≤ t) from decide_eq_decide.2 (by omega)])
           simp only [if_neg ht, e])
end Go.Proofs.Qxb6601687a
