/-
  THE WALK OF middleSnake (function 33), part 4: the backward row put together; both rows.
-/
import Derived.Test.Qxb6601687aSnakeH
namespace Go.Proofs.Qxb6601687a
open Go.RowKit
set_option linter.unusedVariables false
set_option linter.unusedSimpArgs false

theorem b_snake {E : E33} {F G : Int → Int} {c k ex ey : Int} {Q : Exit → Act → World → Prop} (sz : Sz E) (hk : -E.m ≤ k) (hk3 : k ≤ E.n) (f : Nat) : ∀ (a : Act) (w : World) (s x : Int), Fx E a → get a 22 = .int .i64 c → get a 30 = .int .i64 k → get a 31 = .int .i64 x → get a 34 = .int .i64 ex → get a 35 = .int .i64 ey →
    Ok E w F G s → (f : Int) - 4611686018427387904 ≤ s → s ≤ 9223372036854775807 → 0 ≤ x → x ≤ E.n → x - k ≤ E.m → x ≤ f →
    (∀ a' w', Fx E a' → get a' 22 = .int .i64 c → get a' 30 = .int .i64 k → get a' 31 = .int .i64 (My.snB E.a E.b k f x) → get a' 34 = .int .i64 ex → get a' 35 = .int .i64 ey →
      Ok E w' F G (s - (x - My.snB E.a E.b k f x)) → Sm E w w' → Q (.exit 10) a' w') →
    Code.rounds Try.prog (sub [true, true, true, true, true, true, false, true, false, false, true, false, false, true, true, false, false, true, false, false, true, true, true, true, true, true, true, true, false, false, false] (bodyOf Try.f33)) Q (f + 1) a w := by
  have key : ∀ (f : Nat) (a : Act) (w : World) (s x : Int), Fx E a → get a 22 = .int .i64 c → get a 30 = .int .i64 k → get a 31 = .int .i64 x → get a 34 = .int .i64 ex → get a 35 = .int .i64 ey →
    Ok E w F G s → (f : Int) - 4611686018427387904 ≤ s → s ≤ 9223372036854775807 → 0 ≤ x → x ≤ E.n → x - k ≤ E.m → ¬ (0 < x ∧ 0 < x - k ∧ E.a (x - 1).toNat = E.b (x - k - 1).toNat) →
    (∀ a' w', Fx E a' → get a' 22 = .int .i64 c → get a' 30 = .int .i64 k → get a' 31 = .int .i64 x → get a' 34 = .int .i64 ex → get a' 35 = .int .i64 ey →
      Ok E w' F G s → Sm E w w' → Q (.exit 10) a' w') →
    Code.rounds Try.prog (sub [true, true, true, true, true, true, false, true, false, false, true, false, false, true, true, false, false, true, false, false, true, true, true, true, true, true, true, true, false, false, false] (bodyOf Try.f33)) Q (f + 1) a w := by
    intro f a w s x hF h22 h30 h31 h34 h35 ok hs0 hs1 hx hxn hxm hno hQ
    rw [rounds_succ]
    have zx := sz.x0
    have zy := sz.y0
    by_cases h1 : 0 < x
    · by_cases h2 : 0 < x - k
      · refine b61_no3 sz hF h22 h30 h31 h34 h35 ok (by omega) hs1 hx hxn hxm hk hk3 h1 h2 ?_ hQ
        rw [beq_eq_false_iff_ne]
        intro he
        refine hno ⟨h1, h2, ?_⟩
        unfold E33.a E33.b
        rw [show E.x0.toNat + (x - 1).toNat = (E.x0 + x).toNat - 1 by omega, show E.y0.toNat + (x - k - 1).toNat = (E.y0 + x - k).toNat - 1 by omega]
        exact he
      · exact b61_no2 sz hF h22 h30 h31 h34 h35 ok (by omega) hs1 hx hxn hxm hk hk3 h1 (by omega) hQ
    · exact b61_no1 sz hF h22 h30 h31 h34 h35 ok (by omega) hs1 hx hxn hxm hk hk3 (by omega) hQ
  induction f with
  | zero =>
    intro a w s x hF h22 h30 h31 h34 h35 ok hs0 hs1 hx hxn hxm hf hQ
    refine key 0 a w s x hF h22 h30 h31 h34 h35 ok hs0 hs1 hx hxn hxm (by omega) ?_
    have e : s - (x - My.snB E.a E.b k 0 x) = s := by simp [My.snB]
    rw [e] at hQ
    exact hQ
  | succ f ih =>
    intro a w s x hF h22 h30 h31 h34 h35 ok hs0 hs1 hx hxn hxm hf hQ
    have zx := sz.x0
    have zy := sz.y0
    by_cases h1 : 0 < x ∧ 0 < x - k ∧ E.a (x - 1).toNat = E.b (x - k - 1).toNat
    · rw [rounds_succ]
      have e : My.snB E.a E.b k (f + 1) x = My.snB E.a E.b k f (x - 1) := by simp only [My.snB]; rw [if_pos h1]
      rw [e] at hQ
      refine b61_yes sz hF h22 h30 h31 h34 h35 ok (by omega) hs1 hx hxn hxm hk hk3 h1.1 h1.2.1 ?_ ?_
      · rw [beq_iff_eq]
        have h := h1.2.2
        unfold E33.a E33.b at h
        rw [show E.x0.toNat + (x - 1).toNat = (E.x0 + x).toNat - 1 by omega, show E.y0.toNat + (x - k - 1).toNat = (E.y0 + x - k).toNat - 1 by omega] at h
        exact h
      · intro a' w' hF' k22 k30 k31 k34 k35 ok' sm'
        refine ih a' w' (s - 1) (x - 1) hF' k22 k30 k31 k34 k35 ok' (by omega) (by omega) (by omega) (by omega) (by omega) (by omega) ?_
        intro a2 w2 hF2 l22 l30 l31 l34 l35 ok2 sm2
        rw [show s - 1 - (x - 1 - My.snB E.a E.b k f (x - 1)) = s - (x - My.snB E.a E.b k f (x - 1)) by omega] at ok2
        exact hQ a2 w2 hF2 l22 l30 l31 l34 l35 ok2 (sm'.trans sm2)
    · refine key (f + 1) a w s x hF h22 h30 h31 h34 h35 ok hs0 hs1 hx hxn hxm h1 ?_
      have e : My.snB E.a E.b k (f + 1) x = x := by simp only [My.snB]; rw [if_neg h1]
      rw [e, show s - (x - x) = s by omega] at hQ
      exact hQ

theorem qB0 : sub [true, true, true, true, true, true, false, true, false, false, true, false, false, true, true, false, false, true, false, false] (bodyOf Try.f33) = .seq (sub [true, true, true, true, true, true, false, true, false, false, true, false, false, true, true, false, false, true, false, false, false] (bodyOf Try.f33)) (sub [true, true, true, true, true, true, false, true, false, false, true, false, false, true, true, false, false, true, false, false, true] (bodyOf Try.f33)) := by kernel_rfl
theorem qB1 : sub [true, true, true, true, true, true, false, true, false, false, true, false, false, true, true, false, false, true, false, false, true] (bodyOf Try.f33) = .seq (sub [true, true, true, true, true, true, false, true, false, false, true, false, false, true, true, false, false, true, false, false, true, false] (bodyOf Try.f33)) (sub [true, true, true, true, true, true, false, true, false, false, true, false, false, true, true, false, false, true, false, false, true, true] (bodyOf Try.f33)) := by kernel_rfl
theorem qB2 : sub [true, true, true, true, true, true, false, true, false, false, true, false, false, true, true, false, false, true, false, false, true, true] (bodyOf Try.f33) = .seq (sub [true, true, true, true, true, true, false, true, false, false, true, false, false, true, true, false, false, true, false, false, true, true, false] (bodyOf Try.f33)) (sub [true, true, true, true, true, true, false, true, false, false, true, false, false, true, true, false, false, true, false, false, true, true, true] (bodyOf Try.f33)) := by kernel_rfl
theorem qB3 : sub [true, true, true, true, true, true, false, true, false, false, true, false, false, true, true, false, false, true, false, false, true, true, true] (bodyOf Try.f33) = .seq (sub [true, true, true, true, true, true, false, true, false, false, true, false, false, true, true, false, false, true, false, false, true, true, true, false] (bodyOf Try.f33)) (sub [true, true, true, true, true, true, false, true, false, false, true, false, false, true, true, false, false, true, false, false, true, true, true, true] (bodyOf Try.f33)) := by kernel_rfl
theorem qB4 : sub [true, true, true, true, true, true, false, true, false, false, true, false, false, true, true, false, false, true, false, false, true, true, true, true] (bodyOf Try.f33) = .seq (sub [true, true, true, true, true, true, false, true, false, false, true, false, false, true, true, false, false, true, false, false, true, true, true, true, false] (bodyOf Try.f33)) (sub [true, true, true, true, true, true, false, true, false, false, true, false, false, true, true, false, false, true, false, false, true, true, true, true, true] (bodyOf Try.f33)) := by kernel_rfl
theorem qB5 : sub [true, true, true, true, true, true, false, true, false, false, true, false, false, true, true, false, false, true, false, false, true, true, true, true, true] (bodyOf Try.f33) = .seq (sub [true, true, true, true, true, true, false, true, false, false, true, false, false, true, true, false, false, true, false, false, true, true, true, true, true, false] (bodyOf Try.f33)) (sub [true, true, true, true, true, true, false, true, false, false, true, false, false, true, true, false, false, true, false, false, true, true, true, true, true, true] (bodyOf Try.f33)) := by kernel_rfl
theorem qB6 : sub [true, true, true, true, true, true, false, true, false, false, true, false, false, true, true, false, false, true, false, false, true, true, true, true, true, true] (bodyOf Try.f33) = .seq (sub [true, true, true, true, true, true, false, true, false, false, true, false, false, true, true, false, false, true, false, false, true, true, true, true, true, true, false] (bodyOf Try.f33)) (sub [true, true, true, true, true, true, false, true, false, false, true, false, false, true, true, false, false, true, false, false, true, true, true, true, true, true, true] (bodyOf Try.f33)) := by kernel_rfl
theorem qB7 : sub [true, true, true, true, true, true, false, true, false, false, true, false, false, true, true, false, false, true, false, false, true, true, true, true, true, true, true] (bodyOf Try.f33) = .seq (sub [true, true, true, true, true, true, false, true, false, false, true, false, false, true, true, false, false, true, false, false, true, true, true, true, true, true, true, false] (bodyOf Try.f33)) (sub [true, true, true, true, true, true, false, true, false, false, true, false, false, true, true, false, false, true, false, false, true, true, true, true, true, true, true, true] (bodyOf Try.f33)) := by kernel_rfl
theorem qB8 : sub [true, true, true, true, true, true, false, true, false, false, true, false, false, true, true, false, false, true, false, false, true, true, true, true, true, true, true, true] (bodyOf Try.f33) = .seq (sub [true, true, true, true, true, true, false, true, false, false, true, false, false, true, true, false, false, true, false, false, true, true, true, true, true, true, true, true, false] (bodyOf Try.f33)) (sub [true, true, true, true, true, true, false, true, false, false, true, false, false, true, true, false, false, true, false, false, true, true, true, true, true, true, true, true, true] (bodyOf Try.f33)) := by kernel_rfl
theorem qB9 : sub [true, true, true, true, true, true, false, true, false, false, true, false, false, true, true, false, false, true, false, false, true, true, true, true, true, true, true, true, true] (bodyOf Try.f33) = .seq (sub [true, true, true, true, true, true, false, true, false, false, true, false, false, true, true, false, false, true, false, false, true, true, true, true, true, true, true, true, true, false] (bodyOf Try.f33)) (sub [true, true, true, true, true, true, false, true, false, false, true, false, false, true, true, false, false, true, false, false, true, true, true, true, true, true, true, true, true, true] (bodyOf Try.f33)) := by kernel_rfl
theorem qBb : sub [true, true, true, true, true, true, false, true, false, false, true, false, false, true, true, false, false, true, false, false, true, true, true, true, true, true, true, true, false] (bodyOf Try.f33) = .block 10 (sub [true, true, true, true, true, true, false, true, false, false, true, false, false, true, true, false, false, true, false, false, true, true, true, true, true, true, true, true, false, false] (bodyOf Try.f33)) := by kernel_rfl
theorem qBl : sub [true, true, true, true, true, true, false, true, false, false, true, false, false, true, true, false, false, true, false, false, true, true, true, true, true, true, true, true, false, false] (bodyOf Try.f33) = .loop (sub [true, true, true, true, true, true, false, true, false, false, true, false, false, true, true, false, false, true, false, false, true, true, true, true, true, true, true, true, false, false, false] (bodyOf Try.f33)) := by kernel_rfl
theorem qB : sub [true, true, true, true, true, true, false, true, false, false, true, false, false, true, true, false, false] (bodyOf Try.f33) = .seq (sub [true, true, true, true, true, true, false, true, false, false, true, false, false, true, true, false, false, false] (bodyOf Try.f33)) (sub [true, true, true, true, true, true, false, true, false, false, true, false, false, true, true, false, false, true] (bodyOf Try.f33)) := by kernel_rfl
theorem qBr : sub [true, true, true, true, true, true, false, true, false, false, true, false, false, true, true, false, false, true] (bodyOf Try.f33) = .seq (sub [true, true, true, true, true, true, false, true, false, false, true, false, false, true, true, false, false, true, false] (bodyOf Try.f33)) (sub [true, true, true, true, true, true, false, true, false, false, true, false, false, true, true, false, false, true, true] (bodyOf Try.f33)) := by kernel_rfl
theorem qBrl : sub [true, true, true, true, true, true, false, true, false, false, true, false, false, true, true, false, false, true, false] (bodyOf Try.f33) = .block 9 (sub [true, true, true, true, true, true, false, true, false, false, true, false, false, true, true, false, false, true, false, false] (bodyOf Try.f33)) := by kernel_rfl

theorem b_body {E : E33} {a : Act} {w : World} {F G : Int → Int} {s c k : Int} {Q : Exit → Act → World → Prop} (sz : Sz E) (hF : Fx E a) (h22 : get a 22 = .int .i64 c) (h30 : get a 30 = .int .i64 k) (ok : Ok E w F G s)
    (hc : 0 ≤ c) (hc' : c ≤ 1100) (hk1 : (E.n : Int) - E.m - c ≤ k) (hk2 : k ≤ (E.n : Int) - E.m + c) (hk : -E.m ≤ k) (hk' : k ≤ E.n) (hs0 : -2147483648 ≤ s) (hs1 : s ≤ 9223372036854775807)
    (hok : ∀ G' s', My.bStep E.a E.b E.n E.m c k F G s = .ok (G', s') → ∀ a' w', Fx E a' → get a' 22 = .int .i64 c → get a' 30 = .int .i64 k → Ok E w' F G' s' → Sm E w w' → Q .normal a' w' ∧ Q (.exit 9) a' w')
    (herr : ∀ o s', My.bStep E.a E.b E.n E.m c k F G s = .error (o, s') → ∀ a' w', Got a' o → (∃ G', Ok E w' F G' s') → Sm E w w' → Q .ret a' w') :
    Code.wp Try.prog (sub [true, true, true, true, true, true, false, true, false, false, true, false, false, true, true, false, false, true, false, false] (bodyOf Try.f33)) Q a w := by
  rw [qB0]
  refine wp_seq ?_
  by_cases hp : (k - ((E.n : Int) - E.m) + c) % 2 = 0
  case neg =>
    refine b44_no sz hF h22 h30 (by rw [tm2]; simpa using hp) hc hc' hk hk' ?_
    intro a1 hF1 k22 k30
    exact (hok G s (by unfold My.bStep; rw [if_pos hp]) a1 w hF1 k22 k30 ok (Sm.refl E w)).2
  refine b44_yes sz hF h22 h30 (by rw [tm2]; simpa using hp) hc hc' hk hk' ?_
  intro a1 hF1 k22 k30
  show Code.wp Try.prog (sub [true, true, true, true, true, true, false, true, false, false, true, false, false, true, true, false, false, true, false, false, true] (bodyOf Try.f33)) Q a1 w
  rw [qB1]
  refine wp_seq ?_
  by_cases hst : s - 1 < 0
  · refine b45_no sz hF1 k22 k30 ok hst (by omega) ?_
    intro a2 hR
    exact herr none (s - 1) (by unfold My.bStep; rw [if_neg (by omega), if_pos hst]) a2 _ hR ⟨G, ok.setS sz _⟩ ((Sm.refl E w).setCell (.inl rfl) _)
  refine b45_yes sz hF1 k22 k30 ok (by omega) hs1 ?_
  intro a2 hF2 l22 l30
  show Code.wp Try.prog (sub [true, true, true, true, true, true, false, true, false, false, true, false, false, true, true, false, false, true, false, false, true, true] (bodyOf Try.f33)) Q a2 _
  have ok1 := ok.setS sz (s - 1)
  have sm1 : Sm E w (w.setCell ⟨E.pd, 6, none⟩ (.int .i64 (s - 1))) := (Sm.refl E w).setCell (.inl rfl) _
  generalize w.setCell ⟨E.pd, 6, none⟩ (.int .i64 (s - 1)) = w1 at *
  rw [qB2]
  refine wp_seq ?_
  refine b48 sz hF2 l22 l30 ?_
  intro a3 hF3 m22 m30 m31
  show Code.wp Try.prog (sub [true, true, true, true, true, true, false, true, false, false, true, false, false, true, true, false, false, true, false, false, true, true, true] (bodyOf Try.f33)) Q a3 w1
  rw [qB3]
  refine wp_seq ?_
  refine b49 sz hF3 m22 m30 m31 hc hc' ?_
  clear hF3 m22 m30 m31
  intro a3 hF3 m22 m30 m31
  show Code.wp Try.prog (sub [true, true, true, true, true, true, false, true, false, false, true, false, false, true, true, false, false, true, false, false, true, true, true, true] (bodyOf Try.f33)) Q a3 w1
  rw [qB4]
  refine wp_seq ?_
  refine b51 sz hF3 m22 m30 m31 ok1 hc hc' hk hk' ?_
  clear hF3 m22 m30 m31
  intro a3 hF3 m22 m30 m31
  show Code.wp Try.prog (sub [true, true, true, true, true, true, false, true, false, false, true, false, false, true, true, false, false, true, false, false, true, true, true, true, true] (bodyOf Try.f33)) Q a3 w1
  rw [qB5]
  refine wp_seq ?_
  have b1 := ok1.gb (k + 1)
  have b2 := ok1.gb (k - 1)
  have b3 := ok1.gk (k + 1)
  have b4 := ok1.gk (k - 1)
  refine b55 sz hF3 m22 m30 m31 ok1 (by split <;> (try split) <;> omega) (by split <;> (try split) <;> omega) hc hc' hk hk' ?_
  clear hF3 m22 m30 m31
  intro a3 hF3 m22 m30 m31
  show Code.wp Try.prog (sub [true, true, true, true, true, true, false, true, false, false, true, false, false, true, true, false, false, true, false, false, true, true, true, true, true, true] (bodyOf Try.f33)) Q a3 w1
  have eX : (if (E.n : Int) - E.m - c < k ∧ 0 ≤ G (k - 1) ∧ 0 < G (k - 1) - (k - 1) then min (if k < (E.n : Int) - E.m + c ∧ 0 < G (k + 1) then G (k + 1) - 1 else if c = 0 then (E.n : Int) else (E.n : Int) + 1) (G (k - 1)) else (if k < (E.n : Int) - E.m + c ∧ 0 < G (k + 1) then G (k + 1) - 1 else if c = 0 then (E.n : Int) else (E.n : Int) + 1)) = My.stB E.n E.m c k G := rfl
  rw [eX] at m31
  have hx0 : 0 ≤ My.stB E.n E.m c k G := by unfold My.stB; split <;> (try split) <;> (try split) <;> omega
  have hxk : My.stB E.n E.m c k G ≤ E.n → My.stB E.n E.m c k G - k ≤ E.m := by unfold My.stB; split <;> (try split) <;> (try split) <;> omega
  clear eX b1 b2 b3 b4
  have eS : My.bStep E.a E.b E.n E.m c k F G s = if (E.n : Int) < My.stB E.n E.m c k G then .ok (G, s - 1)
      else if ((E.n : Int) - E.m) % 2 = 0 ∧ -c ≤ k ∧ k ≤ c ∧ My.snB E.a E.b k E.n (My.stB E.n E.m c k G) ≤ F k then
        .error (some (My.snB E.a E.b k E.n (My.stB E.n E.m c k G), My.snB E.a E.b k E.n (My.stB E.n E.m c k G) - k, My.stB E.n E.m c k G, My.stB E.n E.m c k G - k), s - 1 - (My.stB E.n E.m c k G - My.snB E.a E.b k E.n (My.stB E.n E.m c k G)))
      else .ok (if G k < 0 ∨ My.snB E.a E.b k E.n (My.stB E.n E.m c k G) < G k then My.put G k (My.snB E.a E.b k E.n (My.stB E.n E.m c k G)) else G, s - 1 - (My.stB E.n E.m c k G - My.snB E.a E.b k E.n (My.stB E.n E.m c k G))) := by
    unfold My.bStep; rw [if_neg (by omega), if_neg hst]
  generalize My.stB E.n E.m c k G = x at *
  rw [qB6]
  refine wp_seq ?_
  by_cases hx : (E.n : Int) < x
  · refine b59_no sz hF3 m22 m30 m31 hx ?_
    intro a4 hF4 n22 n30
    exact (hok G (s - 1) (by rw [eS, if_pos hx]) a4 w1 hF4 n22 n30 ok1 sm1).2
  rw [if_neg hx] at eS
  refine b59_yes sz hF3 m22 m30 m31 (by omega) ?_
  clear hF3 m22 m30 m31
  intro a3 hF3 m22 m30 m31
  show Code.wp Try.prog (sub [true, true, true, true, true, true, false, true, false, false, true, false, false, true, true, false, false, true, false, false, true, true, true, true, true, true, true] (bodyOf Try.f33)) Q a3 w1
  rw [qB7]
  refine wp_seq ?_
  refine b60 sz hF3 m22 m30 m31 hx0 (by omega) hk hk' ?_
  clear hF3 m22 m30 m31
  intro a3 hF3 m22 m30 m31 m34 m35
  show Code.wp Try.prog (sub [true, true, true, true, true, true, false, true, false, false, true, false, false, true, true, false, false, true, false, false, true, true, true, true, true, true, true, true] (bodyOf Try.f33)) Q a3 w1
  rw [qB8]
  refine wp_seq ?_
  rw [qBb]
  refine wp_block ?_
  rw [qBl]
  refine wp_loop_rounds (E.n + 1) ?_
  have zn := sz.n
  refine b_snake sz hk hk' E.n a3 w1 (s - 1) x hF3 m22 m30 m31 m34 m35 ok1 (by omega) (by omega) hx0 (by omega) (hxk (by omega)) (by omega) ?_
  have hxx : My.snB E.a E.b k E.n x ≤ x ∧ 0 ≤ My.snB E.a E.b k E.n x := snB_bd E.n x hx0
  generalize My.snB E.a E.b k E.n x = x' at *
  clear hF3 m22 m30 m31 m34 m35
  intro a3 w3 hF3 m22 m30 m31 m34 m35 ok3 sm3
  show Code.wp Try.prog (sub [true, true, true, true, true, true, false, true, false, false, true, false, false, true, true, false, false, true, false, false, true, true, true, true, true, true, true, true, true] (bodyOf Try.f33)) Q a3 w3
  have sm13 := sm1.trans sm3
  rw [qB9]
  refine wp_seq ?_
  refine b64 sz hF3 m22 m30 m31 m34 m35 ok3 (by have := hxk (by omega); omega) hxx.2 (by omega) hk hk' ?_
  clear hF3 m22 m30 m31 m34 m35
  intro a4 w4 hF3 m22 m30 m31 m34 m35 ok4 sm4
  show Code.wp Try.prog (sub [true, true, true, true, true, true, false, true, false, false, true, false, false, true, true, false, false, true, false, false, true, true, true, true, true, true, true, true, true, true] (bodyOf Try.f33)) Q a4 w4
  have sm14 := sm13.trans sm4
  refine b67 sz hF3 m22 m30 m31 m34 m35 ok4 hxx.2 (by omega) hc hc' hk hk' ?_ ?_
  · intro hn a5 hF5 n22 n30
    rw [if_neg hn] at eS
    exact (hok _ _ eS a5 w4 hF5 n22 n30 ok4 sm14).1
  · intro hn a5 hR
    rw [if_pos hn] at eS
    exact herr _ _ eS a5 w4 hR ⟨_, ok4⟩ sm14

theorem snF_far {a b : Nat → Int} {n m : Nat} {k : Int} (f : Nat) : ∀ x : Int, 0 ≤ x → x ≤ My.snF a b n m k f x ∧ My.snF a b n m k f x - x ≤ n := by
  have key : ∀ (f : Nat) (x : Int), x ≤ My.snF a b n m k f x ∧ (My.snF a b n m k f x ≤ x ∨ My.snF a b n m k f x ≤ n) := by
    intro f
    induction f with
    | zero => intro x; simp only [My.snF]; omega
    | succ f ih =>
      intro x
      simp only [My.snF]
      split
      · have := ih (x + 1); omega
      · omega
  intro x hx
  have := key f x
  omega

theorem fStep_lo {a b : Nat → Int} {n m : Nat} {c k : Int} {F G F' : Int → Int} {s s' : Int} (h : My.fStep a b n m c k G F s = .ok (F', s')) : s' ≤ s ∧ (s' = s ∨ -(n : Int) ≤ s') := by
  unfold My.fStep at h
  split at h
  · simp only [Except.ok.injEq, Prod.mk.injEq] at h; omega
  · split at h
    · cases h
    · split at h
      · simp only [Except.ok.injEq, Prod.mk.injEq] at h; omega
      · have hf := snF_far (a := a) (b := b) (n := n) (m := m) (k := k) n (My.stF n m c k F) (by omega)
        split at h
        · cases h
        · simp only [Except.ok.injEq, Prod.mk.injEq] at h; omega

theorem bStep_lo {a b : Nat → Int} {n m : Nat} {c k : Int} {F G G' : Int → Int} {s s' : Int} (hG : 0 ≤ My.stB n m c k G) (h : My.bStep a b n m c k F G s = .ok (G', s')) : s' ≤ s ∧ (s' = s ∨ -(n : Int) ≤ s') := by
  unfold My.bStep at h
  split at h
  · simp only [Except.ok.injEq, Prod.mk.injEq] at h; omega
  · split at h
    · cases h
    · split at h
      · simp only [Except.ok.injEq, Prod.mk.injEq] at h; omega
      · have hf := snB_bd (a := a) (b := b) (k := k) n (My.stB n m c k G) hG
        split at h
        · cases h
        · simp only [Except.ok.injEq, Prod.mk.injEq] at h; omega

theorem stB_pos {E : E33} {w : World} {F G : Int → Int} {s c k : Int} (ok : Ok E w F G s) : 0 ≤ My.stB E.n E.m c k G := by
  have b1 := ok.gb (k + 1)
  have b2 := ok.gb (k - 1)
  unfold My.stB; split <;> (try split) <;> (try split) <;> omega

theorem f_row {E : E33} {G : Int → Int} {c : Int} {Q : Exit → Act → World → Prop} (sz : Sz E) (hc : 0 ≤ c) (hc' : c ≤ 1100) (j : Nat) : ∀ (a : Act) (w : World) (F : Int → Int) (s k : Int), Fx E a → get a 22 = .int .i64 c → get a 23 = .int .i64 k → Ok E w F G s →
    k - j + 1 = max (-c) (-(E.m : Int)) → k ≤ min c (E.n : Int) → -2147483648 ≤ s → s ≤ 9223372036854775807 →
    (∀ F' s', My.sweep (fun k F s => My.fStep E.a E.b E.n E.m c k G F s) j k F s = .ok (F', s') → -2147483648 ≤ s' → s' ≤ 9223372036854775807 → ∀ a' w', Fx E a' → get a' 22 = .int .i64 c → Ok E w' F' G s' → Sm E w w' → Q (.exit 4) a' w') →
    (∀ o s', My.sweep (fun k F s => My.fStep E.a E.b E.n E.m c k G F s) j k F s = .error (o, s') → ∀ a' w', Got a' o → (∃ F', Ok E w' F' G s') → Sm E w w' → Q .ret a' w') →
    Code.rounds Try.prog (sub [true, true, true, true, true, true, false, true, false, false, true, false, false, false, true, false, false] (bodyOf Try.f33)) Q (j + 1) a w := by
  have zn := sz.n
  have zm := sz.m
  induction j with
  | zero =>
    intro a w F s k hF h22 hk ok hlo hhi hs0 hs1 hok herr
    rw [rounds_succ, qF]
    refine wp_seq ?_
    refine fH_out sz hF h22 hk hc hc' (by omega) (by omega) ?_
    intro a1 hF1 k22
    exact hok F s rfl hs0 hs1 a1 w hF1 k22 ok (Sm.refl E w)
  | succ j ih =>
    intro a w F s k hF h22 hk ok hlo hhi hs0 hs1 hok herr
    rw [rounds_succ, qF]
    refine wp_seq ?_
    refine fH_in sz hF h22 hk hc hc' (by omega) (by omega) ?_
    intro a1 hF1 k22 k23
    show Code.wp Try.prog (sub [true, true, true, true, true, true, false, true, false, false, true, false, false, false, true, false, false, true] (bodyOf Try.f33)) _ a1 w
    rw [qFr]
    refine wp_seq ?_
    rw [qFrl]
    refine wp_block ?_
    refine f_body sz hF1 k22 k23 ok hc hc' (by omega) (by omega) (by omega) (by omega) hs0 hs1 ?_ ?_
    · intro F1 s1 heq a2 w2 hF2 l22 l23 ok2 sm2
      have hlo2 := fStep_lo heq
      have go : Code.wp Try.prog (sub [true, true, true, true, true, true, false, true, false, false, true, false, false, false, true, false, false, true, true] (bodyOf Try.f33)) (Exit.then (Code.rounds Try.prog (sub [true, true, true, true, true, true, false, true, false, false, true, false, false, false, true, false, false] (bodyOf Try.f33)) Q (j + 1)) Q) a2 w2 := by
        refine f15 sz hF2 l22 l23 (by omega) (by omega) ?_
        intro a3 hF3 m22 m23
        refine ih a3 w2 F1 s1 (k - 1) hF3 m22 m23 ok2 (by omega) (by omega) (by omega) (by omega) ?_ ?_
        · intro F2 s2 hsw p1 p2 a4 w4 hF4 n22 ok4 sm4
          exact hok F2 s2 (by simp only [My.sweep, heq]; exact hsw) p1 p2 a4 w4 hF4 n22 ok4 (sm2.trans sm4)
        · intro o s2 hsw a4 w4 hG hO sm4
          exact herr o s2 (by simp only [My.sweep, heq]; exact hsw) a4 w4 hG hO (sm2.trans sm4)
      exact ⟨go, go⟩
    · intro o s1 heq a2 w2 hG hO sm2
      exact herr o s1 (by simp only [My.sweep, heq]) a2 w2 hG hO sm2

theorem b_row {E : E33} {F : Int → Int} {c : Int} {Q : Exit → Act → World → Prop} (sz : Sz E) (hc : 0 ≤ c) (hc' : c ≤ 1100) (j : Nat) : ∀ (a : Act) (w : World) (G : Int → Int) (s k : Int), Fx E a → get a 22 = .int .i64 c → get a 30 = .int .i64 k → Ok E w F G s →
    k - j + 1 = max ((E.n : Int) - E.m - c) (-(E.m : Int)) → k ≤ min ((E.n : Int) - E.m + c) (E.n : Int) → -2147483648 ≤ s → s ≤ 9223372036854775807 →
    (∀ G' s', My.sweep (fun k G s => My.bStep E.a E.b E.n E.m c k F G s) j k G s = .ok (G', s') → -2147483648 ≤ s' → s' ≤ 9223372036854775807 → ∀ a' w', Fx E a' → get a' 22 = .int .i64 c → Ok E w' F G' s' → Sm E w w' → Q (.exit 8) a' w') →
    (∀ o s', My.sweep (fun k G s => My.bStep E.a E.b E.n E.m c k F G s) j k G s = .error (o, s') → ∀ a' w', Got a' o → (∃ G', Ok E w' F G' s') → Sm E w w' → Q .ret a' w') →
    Code.rounds Try.prog (sub [true, true, true, true, true, true, false, true, false, false, true, false, false, true, true, false, false] (bodyOf Try.f33)) Q (j + 1) a w := by
  have zn := sz.n
  have zm := sz.m
  induction j with
  | zero =>
    intro a w G s k hF h22 hk ok hlo hhi hs0 hs1 hok herr
    rw [rounds_succ, qB]
    refine wp_seq ?_
    refine bH_out sz hF h22 hk hc hc' (by omega) (by omega) ?_
    intro a1 hF1 k22
    exact hok G s rfl hs0 hs1 a1 w hF1 k22 ok (Sm.refl E w)
  | succ j ih =>
    intro a w G s k hF h22 hk ok hlo hhi hs0 hs1 hok herr
    rw [rounds_succ, qB]
    refine wp_seq ?_
    refine bH_in sz hF h22 hk hc hc' (by omega) (by omega) ?_
    intro a1 hF1 k22 k23
    show Code.wp Try.prog (sub [true, true, true, true, true, true, false, true, false, false, true, false, false, true, true, false, false, true] (bodyOf Try.f33)) _ a1 w
    rw [qBr]
    refine wp_seq ?_
    rw [qBrl]
    refine wp_block ?_
    refine b_body sz hF1 k22 k23 ok hc hc' (by omega) (by omega) (by omega) (by omega) hs0 hs1 ?_ ?_
    · intro G1 s1 heq a2 w2 hF2 l22 l23 ok2 sm2
      have hlo2 := bStep_lo (stB_pos ok) heq
      have go : Code.wp Try.prog (sub [true, true, true, true, true, true, false, true, false, false, true, false, false, true, true, false, false, true, true] (bodyOf Try.f33)) (Exit.then (Code.rounds Try.prog (sub [true, true, true, true, true, true, false, true, false, false, true, false, false, true, true, false, false] (bodyOf Try.f33)) Q (j + 1)) Q) a2 w2 := by
        refine b43 sz hF2 l22 l23 (by omega) (by omega) ?_
        intro a3 hF3 m22 m23
        refine ih a3 w2 G1 s1 (k - 1) hF3 m22 m23 ok2 (by omega) (by omega) (by omega) (by omega) ?_ ?_
        · intro G2 s2 hsw p1 p2 a4 w4 hF4 n22 ok4 sm4
          exact hok G2 s2 (by simp only [My.sweep, heq]; exact hsw) p1 p2 a4 w4 hF4 n22 ok4 (sm2.trans sm4)
        · intro o s2 hsw a4 w4 hG hO sm4
          exact herr o s2 (by simp only [My.sweep, heq]; exact hsw) a4 w4 hG hO (sm2.trans sm4)
      exact ⟨go, go⟩
    · intro o s1 heq a2 w2 hG hO sm2
      exact herr o s1 (by simp only [My.sweep, heq]) a2 w2 hG hO sm2
end Go.Proofs.Qxb6601687a
