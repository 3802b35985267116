/-
  THE WALK OF middleSnake (function 33), part 2: the forward snake, the forward row put together.
-/
import Derived.Test.Qxb6601687aSnakeF
namespace Go.Proofs.Qxb6601687a
open Go.RowKit
set_option linter.unusedVariables false
set_option linter.unusedSimpArgs false

theorem tm2 (z : Int) : (z.tmod 2 != 0) = decide (z % 2 ≠ 0) := by
  have : z.tmod 2 = 0 ↔ z % 2 = 0 := by rw [← Int.dvd_iff_tmod_eq_zero, Int.dvd_iff_emod_eq_zero]
  rw [Bool.eq_iff_iff]; simp; omega
theorem snF_bd {a b : Nat → Int} {n m : Nat} {k : Int} (f : Nat) : ∀ x : Int, x ≤ n → x ≤ My.snF a b n m k f x ∧ My.snF a b n m k f x ≤ n := by
  induction f with
  | zero => intro x h1; simp only [My.snF]; omega
  | succ f ih =>
    intro x h1
    simp only [My.snF]
    split
    · have := ih (x + 1) (by omega); omega
    · omega
theorem snB_bd {a b : Nat → Int} {k : Int} (f : Nat) : ∀ x : Int, 0 ≤ x → My.snB a b k f x ≤ x ∧ 0 ≤ My.snB a b k f x := by
  induction f with
  | zero => intro x h1; simp only [My.snB]; omega
  | succ f ih =>
    intro x h1
    simp only [My.snB]
    split
    · have := ih (x - 1) (by omega); omega
    · omega
theorem tm2e (z : Int) : (z.tmod 2 == 0) = decide (z % 2 = 0) := by
  have : z.tmod 2 = 0 ↔ z % 2 = 0 := by rw [← Int.dvd_iff_tmod_eq_zero, Int.dvd_iff_emod_eq_zero]
  rw [Bool.eq_iff_iff]; simp; omega

theorem f_snake {E : E33} {F G : Int → Int} {c k sx sy : Int} {Q : Exit → Act → World → Prop} (sz : Sz E) (hk : -E.m ≤ k) (hk3 : k ≤ E.n) (f : Nat) : ∀ (a : Act) (w : World) (s x : Int), Fx E a → get a 22 = .int .i64 c → get a 23 = .int .i64 k → get a 24 = .int .i64 x → get a 27 = .int .i64 sx → get a 28 = .int .i64 sy →
    Ok E w F G s → (f : Int) - 4611686018427387904 ≤ s → s ≤ 9223372036854775807 → 0 ≤ x → k ≤ x → E.n - x ≤ f →
    (∀ a' w', Fx E a' → get a' 22 = .int .i64 c → get a' 23 = .int .i64 k → get a' 24 = .int .i64 (My.snF E.a E.b E.n E.m k f x) → get a' 27 = .int .i64 sx → get a' 28 = .int .i64 sy →
      Ok E w' F G (s - (My.snF E.a E.b E.n E.m k f x - x)) → Sm E w w' → Q (.exit 6) a' w') →
    Code.rounds Try.prog (sub [true, true, true, true, true, true, false, true, false, false, true, false, false, false, true, false, false, true, false, false, true, true, true, true, true, true, true, true, false, false, false] (bodyOf Try.f33)) Q (f + 1) a w := by
  have key : ∀ (f : Nat) (a : Act) (w : World) (s x : Int), Fx E a → get a 22 = .int .i64 c → get a 23 = .int .i64 k → get a 24 = .int .i64 x → get a 27 = .int .i64 sx → get a 28 = .int .i64 sy →
    Ok E w F G s → (f : Int) - 4611686018427387904 ≤ s → s ≤ 9223372036854775807 → 0 ≤ x → k ≤ x → ¬ (x < E.n ∧ x - k < E.m ∧ E.a x.toNat = E.b (x - k).toNat) →
    (∀ a' w', Fx E a' → get a' 22 = .int .i64 c → get a' 23 = .int .i64 k → get a' 24 = .int .i64 x → get a' 27 = .int .i64 sx → get a' 28 = .int .i64 sy →
      Ok E w' F G s → Sm E w w' → Q (.exit 6) a' w') →
    Code.rounds Try.prog (sub [true, true, true, true, true, true, false, true, false, false, true, false, false, false, true, false, false, true, false, false, true, true, true, true, true, true, true, true, false, false, false] (bodyOf Try.f33)) Q (f + 1) a w := by
    intro f a w s x hF h22 h23 h24 h27 h28 ok hs0 hs1 hx hkx hno hQ
    rw [rounds_succ]
    have zx := sz.x0
    have zy := sz.y0
    by_cases h1 : x < E.n
    · by_cases h2 : x - k < E.m
      · refine f33_no3 sz hF h22 h23 h24 h27 h28 ok (by omega) hs1 hx hkx hk hk3 h1 h2 ?_ hQ
        rw [beq_eq_false_iff_ne]
        intro he
        refine hno ⟨h1, h2, ?_⟩
        unfold E33.a E33.b
        rw [show E.x0.toNat + x.toNat = (E.x0 + x).toNat by omega, show E.y0.toNat + (x - k).toNat = (E.y0 + x - k).toNat by omega]
        exact he
      · exact f33_no2 sz hF h22 h23 h24 h27 h28 ok (by omega) hs1 hx hkx hk hk3 h1 (by omega) hQ
    · exact f33_no1 sz hF h22 h23 h24 h27 h28 ok (by omega) hs1 hx hkx hk hk3 (by omega) hQ
  induction f with
  | zero =>
    intro a w s x hF h22 h23 h24 h27 h28 ok hs0 hs1 hx hkx hf hQ
    refine key 0 a w s x hF h22 h23 h24 h27 h28 ok hs0 hs1 hx hkx (by omega) ?_
    have e : s - (My.snF E.a E.b E.n E.m k 0 x - x) = s := by simp [My.snF]
    rw [e] at hQ
    exact hQ
  | succ f ih =>
    intro a w s x hF h22 h23 h24 h27 h28 ok hs0 hs1 hx hkx hf hQ
    have zx := sz.x0
    have zy := sz.y0
    by_cases h1 : x < E.n ∧ x - k < E.m ∧ E.a x.toNat = E.b (x - k).toNat
    · rw [rounds_succ]
      have e : My.snF E.a E.b E.n E.m k (f + 1) x = My.snF E.a E.b E.n E.m k f (x + 1) := by simp only [My.snF]; rw [if_pos h1]
      rw [e] at hQ
      refine f33_yes sz hF h22 h23 h24 h27 h28 ok (by omega) hs1 hx hkx hk hk3 h1.1 h1.2.1 ?_ ?_
      · rw [beq_iff_eq]
        have h := h1.2.2
        unfold E33.a E33.b at h
        rw [show E.x0.toNat + x.toNat = (E.x0 + x).toNat by omega, show E.y0.toNat + (x - k).toNat = (E.y0 + x - k).toNat by omega] at h
        exact h
      · intro a' w' hF' k22 k23 k24 k27 k28 ok' sm'
        refine ih a' w' (s - 1) (x + 1) hF' k22 k23 k24 k27 k28 ok' (by omega) (by omega) (by omega) (by omega) (by omega) ?_
        intro a2 w2 hF2 l22 l23 l24 l27 l28 ok2 sm2
        rw [show s - 1 - (My.snF E.a E.b E.n E.m k f (x + 1) - (x + 1)) = s - (My.snF E.a E.b E.n E.m k f (x + 1) - x) by omega] at ok2
        exact hQ a2 w2 hF2 l22 l23 l24 l27 l28 ok2 (sm'.trans sm2)
    · refine key (f + 1) a w s x hF h22 h23 h24 h27 h28 ok hs0 hs1 hx hkx h1 ?_
      have e : My.snF E.a E.b E.n E.m k (f + 1) x = x := by simp only [My.snF]; rw [if_neg h1]
      rw [e, show s - (x - x) = s by omega] at hQ
      exact hQ

set_option maxHeartbeats 1000000 in
set_option maxRecDepth 100000 in
theorem f36 {E : E33} {a : Act} {w : World} {F G : Int → Int} {s c k x sx sy : Int} {Q : Exit → Act → World → Prop} (sz : Sz E) (hF : Fx E a) (h22 : get a 22 = .int .i64 c) (h23 : get a 23 = .int .i64 k) (h24 : get a 24 = .int .i64 x) (h27 : get a 27 = .int .i64 sx) (h28 : get a 28 = .int .i64 sy) (ok : Ok E w F G s) (hkx : k ≤ x) (hx : 0 ≤ x) (hx' : x ≤ E.n) (hk : -E.m ≤ k) (hk' : k ≤ E.n)
    (hQ : Hid (∀ a' w', Fx E a' → get a' 22 = .int .i64 c → get a' 23 = .int .i64 k → get a' 24 = .int .i64 x → get a' 27 = .int .i64 sx → get a' 28 = .int .i64 sy → Ok E w' (My.put F k (max (F k) x)) G s → Sm E w w' → Q .normal a' w')) :
    Code.wp Try.prog (sub [true, true, true, true, true, true, false, true, false, false, true, false, false, false, true, false, false, true, false, false, true, true, true, true, true, true, true, true, true, false] (bodyOf Try.f33)) Q a w := by
  conv => arg 2; whnf
  obtain ⟨hd, hs, g0, g1, g3, g10, g11, g12, g13, g14, g15, g16, g17, g18, g19, g20⟩ := hF
  have sz' := sz
  obtain ⟨z1, z2, z3, z4, z5, z6, z7, z8, z9, z10, e1, e2, e3, e4, e5, e6, e7, e8, e9, va, vb⟩ := sz'
  clear e1 e2 e3 e4 e5 e6 e7 e8 e9 va vb
  have cf := ok.f k (by omega) (by omega)
  have zf := ok.ffz (k + (E.m + 1)).toNat
  have hb := ok.fb k
  rw [lit33 a hd hs]
  generalize get a = g at *
  simp only [g0, g1, g3, g10, g11, g12, g13, g14, g15, g16, g17, g18, g19, g20, h22, h23, h24, h27, h28]
  clear hd hs g0 g1 g3 g10 g11 g12 g13 g14 g15 g16 g17 g18 g19 g20 h22 h23 h24 h27 h28
  have OK : Hid (Ok E w F G s) := ok
  clear ok
  go_wp2
  all_goals
    refine hQ.out _ _ ⟨rfl, rfl, rfl, rfl, rfl, rfl, rfl, rfl, rfl, rfl, rfl, rfl, rfl, rfl, rfl, rfl⟩ rfl rfl rfl rfl rfl ?_ ((Sm.refl E w).setCell (.inr (.inl rfl)) _)
  · have h1 : max (F k) x = x := by omega
    rw [h1]; exact OK.out.setF sz k x (by omega) (by omega) (by omega) (by omega)
  · have h1 : max (F k) x = F k := by omega
    rw [h1]; exact OK.out.setF sz k (F k) (by omega) (by omega) (by omega) (by omega)
set_option maxHeartbeats 1000000 in
set_option maxRecDepth 100000 in
theorem f37 {E : E33} {a : Act} {w : World} {F G : Int → Int} {s c k x sx sy : Int} {Q : Exit → Act → World → Prop} (sz : Sz E) (hF : Fx E a) (h22 : get a 22 = .int .i64 c) (h23 : get a 23 = .int .i64 k) (h24 : get a 24 = .int .i64 x) (h27 : get a 27 = .int .i64 sx) (h28 : get a 28 = .int .i64 sy) (ok : Ok E w F G s) (hx : 0 ≤ x) (hx' : x ≤ E.n) (hc : 0 ≤ c) (hc' : c ≤ 1100)(hk : -E.m ≤ k) (hk' : k ≤ E.n)
    (hQ : Hid (¬ (((E.n : Int) - E.m) % 2 ≠ 0 ∧ (E.n : Int) - E.m - (c - 1) ≤ k ∧ k ≤ (E.n : Int) - E.m + (c - 1) ∧ 0 ≤ G k ∧ G k ≤ x) → ∀ a', Fx E a' → get a' 22 = .int .i64 c → get a' 23 = .int .i64 k → Q .normal a' w)) (hR : Hid (((E.n : Int) - E.m) % 2 ≠ 0 ∧ (E.n : Int) - E.m - (c - 1) ≤ k ∧ k ≤ (E.n : Int) - E.m + (c - 1) ∧ 0 ≤ G k ∧ G k ≤ x → ∀ a', Rt a' sx sy x (x - k) true → Q .ret a' w)) :
    Code.wp Try.prog (sub [true, true, true, true, true, true, false, true, false, false, true, false, false, false, true, false, false, true, false, false, true, true, true, true, true, true, true, true, true, true] (bodyOf Try.f33)) Q a w := by
  conv => arg 2; whnf
  obtain ⟨hd, hs, g0, g1, g3, g10, g11, g12, g13, g14, g15, g16, g17, g18, g19, g20⟩ := hF
  have sz' := sz
  obtain ⟨z1, z2, z3, z4, z5, z6, z7, z8, z9, z10, e1, e2, e3, e4, e5, e6, e7, e8, e9, va, vb⟩ := sz'
  clear e1 e2 e3 e4 e5 e6 e7 e8 e9 va vb
  have cg := ok.g k (by omega) (by omega)
  have hb := ok.gb k
  clear ok
  rw [lit33 a hd hs]
  generalize get a = g at *
  simp only [g0, g1, g3, g10, g11, g12, g13, g14, g15, g16, g17, g18, g19, g20, h22, h23, h24, h27, h28]
  clear hd hs g0 g1 g3 g10 g11 g12 g13 g14 g15 g16 g17 g18 g19 g20 h22 h23 h24 h27 h28
  by_cases hp : ((E.n : Int) - E.m) % 2 = 0
  · have hpb : (((E.n : Int) - E.m).tmod 2 != 0) = false := by rw [tm2]; simp [hp]
    have HP : Hid (((E.n : Int) - E.m) % 2 = 0) := hp
    clear hp
    go_wp2
    exact hQ.out (fun h => h.1 HP.out) _ ⟨rfl, rfl, rfl, rfl, rfl, rfl, rfl, rfl, rfl, rfl, rfl, rfl, rfl, rfl, rfl, rfl⟩ rfl rfl
  · have hpb : (((E.n : Int) - E.m).tmod 2 != 0) = true := by rw [tm2]; simp [hp]
    have HP : Hid (((E.n : Int) - E.m) % 2 ≠ 0) := hp
    clear hp
    go_wp2
    all_goals first
      | exact hR.out ⟨HP.out, by omega, by omega, by omega, by omega⟩ _ ⟨rfl, rfl, rfl, rfl, rfl, rfl⟩
      | exact hQ.out (by omega) _ ⟨rfl, rfl, rfl, rfl, rfl, rfl, rfl, rfl, rfl, rfl, rfl, rfl, rfl, rfl, rfl, rfl⟩ rfl rfl
set_option maxHeartbeats 1000000 in
set_option maxRecDepth 100000 in
theorem f15 {E : E33} {a : Act} {w : World} {c k : Int} {Q : Exit → Act → World → Prop} (sz : Sz E) (hF : Fx E a) (h22 : get a 22 = .int .i64 c) (h23 : get a 23 = .int .i64 k) (hk : -1100 ≤ k)  (hk' : k ≤ 1100)
    (hQ : Hid (∀ a', Fx E a' → get a' 22 = .int .i64 c → get a' 23 = .int .i64 (k - 1) → Q .normal a' w)) :
    Code.wp Try.prog (sub [true, true, true, true, true, true, false, true, false, false, true, false, false, false, true, false, false, true, true] (bodyOf Try.f33)) Q a w := by
  conv => arg 2; whnf
  obtain ⟨hd, hs, g0, g1, g3, g10, g11, g12, g13, g14, g15, g16, g17, g18, g19, g20⟩ := hF
  have sz' := sz
  obtain ⟨z1, z2, z3, z4, z5, z6, z7, z8, z9, z10, e1, e2, e3, e4, e5, e6, e7, e8, e9, va, vb⟩ := sz'
  clear e1 e2 e3 e4 e5 e6 e7 e8 e9 va vb
  rw [lit33 a hd hs]
  generalize get a = g at *
  simp only [g0, g1, g3, g10, g11, g12, g13, g14, g15, g16, g17, g18, g19, g20, h22, h23]
  clear hd hs g0 g1 g3 g10 g11 g12 g13 g14 g15 g16 g17 g18 g19 g20 h22 h23
  go_wp2
  exact hQ.out _ ⟨rfl, rfl, rfl, rfl, rfl, rfl, rfl, rfl, rfl, rfl, rfl, rfl, rfl, rfl, rfl, rfl⟩ rfl rfl
theorem qF0 : sub [true, true, true, true, true, true, false, true, false, false, true, false, false, false, true, false, false, true, false, false] (bodyOf Try.f33) = .seq (sub [true, true, true, true, true, true, false, true, false, false, true, false, false, false, true, false, false, true, false, false, false] (bodyOf Try.f33)) (sub [true, true, true, true, true, true, false, true, false, false, true, false, false, false, true, false, false, true, false, false, true] (bodyOf Try.f33)) := by kernel_rfl
theorem qF1 : sub [true, true, true, true, true, true, false, true, false, false, true, false, false, false, true, false, false, true, false, false, true] (bodyOf Try.f33) = .seq (sub [true, true, true, true, true, true, false, true, false, false, true, false, false, false, true, false, false, true, false, false, true, false] (bodyOf Try.f33)) (sub [true, true, true, true, true, true, false, true, false, false, true, false, false, false, true, false, false, true, false, false, true, true] (bodyOf Try.f33)) := by kernel_rfl
theorem qF2 : sub [true, true, true, true, true, true, false, true, false, false, true, false, false, false, true, false, false, true, false, false, true, true] (bodyOf Try.f33) = .seq (sub [true, true, true, true, true, true, false, true, false, false, true, false, false, false, true, false, false, true, false, false, true, true, false] (bodyOf Try.f33)) (sub [true, true, true, true, true, true, false, true, false, false, true, false, false, false, true, false, false, true, false, false, true, true, true] (bodyOf Try.f33)) := by kernel_rfl
theorem qF3 : sub [true, true, true, true, true, true, false, true, false, false, true, false, false, false, true, false, false, true, false, false, true, true, true] (bodyOf Try.f33) = .seq (sub [true, true, true, true, true, true, false, true, false, false, true, false, false, false, true, false, false, true, false, false, true, true, true, false] (bodyOf Try.f33)) (sub [true, true, true, true, true, true, false, true, false, false, true, false, false, false, true, false, false, true, false, false, true, true, true, true] (bodyOf Try.f33)) := by kernel_rfl
theorem qF4 : sub [true, true, true, true, true, true, false, true, false, false, true, false, false, false, true, false, false, true, false, false, true, true, true, true] (bodyOf Try.f33) = .seq (sub [true, true, true, true, true, true, false, true, false, false, true, false, false, false, true, false, false, true, false, false, true, true, true, true, false] (bodyOf Try.f33)) (sub [true, true, true, true, true, true, false, true, false, false, true, false, false, false, true, false, false, true, false, false, true, true, true, true, true] (bodyOf Try.f33)) := by kernel_rfl
theorem qF5 : sub [true, true, true, true, true, true, false, true, false, false, true, false, false, false, true, false, false, true, false, false, true, true, true, true, true] (bodyOf Try.f33) = .seq (sub [true, true, true, true, true, true, false, true, false, false, true, false, false, false, true, false, false, true, false, false, true, true, true, true, true, false] (bodyOf Try.f33)) (sub [true, true, true, true, true, true, false, true, false, false, true, false, false, false, true, false, false, true, false, false, true, true, true, true, true, true] (bodyOf Try.f33)) := by kernel_rfl
theorem qF6 : sub [true, true, true, true, true, true, false, true, false, false, true, false, false, false, true, false, false, true, false, false, true, true, true, true, true, true] (bodyOf Try.f33) = .seq (sub [true, true, true, true, true, true, false, true, false, false, true, false, false, false, true, false, false, true, false, false, true, true, true, true, true, true, false] (bodyOf Try.f33)) (sub [true, true, true, true, true, true, false, true, false, false, true, false, false, false, true, false, false, true, false, false, true, true, true, true, true, true, true] (bodyOf Try.f33)) := by kernel_rfl
theorem qF7 : sub [true, true, true, true, true, true, false, true, false, false, true, false, false, false, true, false, false, true, false, false, true, true, true, true, true, true, true] (bodyOf Try.f33) = .seq (sub [true, true, true, true, true, true, false, true, false, false, true, false, false, false, true, false, false, true, false, false, true, true, true, true, true, true, true, false] (bodyOf Try.f33)) (sub [true, true, true, true, true, true, false, true, false, false, true, false, false, false, true, false, false, true, false, false, true, true, true, true, true, true, true, true] (bodyOf Try.f33)) := by kernel_rfl
theorem qF8 : sub [true, true, true, true, true, true, false, true, false, false, true, false, false, false, true, false, false, true, false, false, true, true, true, true, true, true, true, true] (bodyOf Try.f33) = .seq (sub [true, true, true, true, true, true, false, true, false, false, true, false, false, false, true, false, false, true, false, false, true, true, true, true, true, true, true, true, false] (bodyOf Try.f33)) (sub [true, true, true, true, true, true, false, true, false, false, true, false, false, false, true, false, false, true, false, false, true, true, true, true, true, true, true, true, true] (bodyOf Try.f33)) := by kernel_rfl
theorem qF9 : sub [true, true, true, true, true, true, false, true, false, false, true, false, false, false, true, false, false, true, false, false, true, true, true, true, true, true, true, true, true] (bodyOf Try.f33) = .seq (sub [true, true, true, true, true, true, false, true, false, false, true, false, false, false, true, false, false, true, false, false, true, true, true, true, true, true, true, true, true, false] (bodyOf Try.f33)) (sub [true, true, true, true, true, true, false, true, false, false, true, false, false, false, true, false, false, true, false, false, true, true, true, true, true, true, true, true, true, true] (bodyOf Try.f33)) := by kernel_rfl
theorem qFb : sub [true, true, true, true, true, true, false, true, false, false, true, false, false, false, true, false, false, true, false, false, true, true, true, true, true, true, true, true, false] (bodyOf Try.f33) = .block 6 (sub [true, true, true, true, true, true, false, true, false, false, true, false, false, false, true, false, false, true, false, false, true, true, true, true, true, true, true, true, false, false] (bodyOf Try.f33)) := by kernel_rfl
theorem qFl : sub [true, true, true, true, true, true, false, true, false, false, true, false, false, false, true, false, false, true, false, false, true, true, true, true, true, true, true, true, false, false] (bodyOf Try.f33) = .loop (sub [true, true, true, true, true, true, false, true, false, false, true, false, false, false, true, false, false, true, false, false, true, true, true, true, true, true, true, true, false, false, false] (bodyOf Try.f33)) := by kernel_rfl
theorem qF : sub [true, true, true, true, true, true, false, true, false, false, true, false, false, false, true, false, false] (bodyOf Try.f33) = .seq (sub [true, true, true, true, true, true, false, true, false, false, true, false, false, false, true, false, false, false] (bodyOf Try.f33)) (sub [true, true, true, true, true, true, false, true, false, false, true, false, false, false, true, false, false, true] (bodyOf Try.f33)) := by kernel_rfl
theorem qFr : sub [true, true, true, true, true, true, false, true, false, false, true, false, false, false, true, false, false, true] (bodyOf Try.f33) = .seq (sub [true, true, true, true, true, true, false, true, false, false, true, false, false, false, true, false, false, true, false] (bodyOf Try.f33)) (sub [true, true, true, true, true, true, false, true, false, false, true, false, false, false, true, false, false, true, true] (bodyOf Try.f33)) := by kernel_rfl
theorem qFrl : sub [true, true, true, true, true, true, false, true, false, false, true, false, false, false, true, false, false, true, false] (bodyOf Try.f33) = .block 5 (sub [true, true, true, true, true, true, false, true, false, false, true, false, false, false, true, false, false, true, false, false] (bodyOf Try.f33)) := by kernel_rfl

/-- what comes back where the search ends -/
def Got (a : Act) : Option (Int × Int × Int × Int) → Prop
  | none => Rt a 0 0 0 0 false
  | some r => Rt a r.1 r.2.1 r.2.2.1 r.2.2.2 true

theorem f_body {E : E33} {a : Act} {w : World} {F G : Int → Int} {s c k : Int} {Q : Exit → Act → World → Prop} (sz : Sz E) (hF : Fx E a) (h22 : get a 22 = .int .i64 c) (h23 : get a 23 = .int .i64 k) (ok : Ok E w F G s)
    (hc : 0 ≤ c) (hc' : c ≤ 1100) (hk1 : -c ≤ k) (hk2 : k ≤ c) (hk : -E.m ≤ k) (hk' : k ≤ E.n) (hs0 : -2147483648 ≤ s) (hs1 : s ≤ 9223372036854775807)
    (hok : ∀ F' s', My.fStep E.a E.b E.n E.m c k G F s = .ok (F', s') → ∀ a' w', Fx E a' → get a' 22 = .int .i64 c → get a' 23 = .int .i64 k → Ok E w' F' G s' → Sm E w w' → Q .normal a' w' ∧ Q (.exit 5) a' w')
    (herr : ∀ o s', My.fStep E.a E.b E.n E.m c k G F s = .error (o, s') → ∀ a' w', Got a' o → (∃ F', Ok E w' F' G s') → Sm E w w' → Q .ret a' w') :
    Code.wp Try.prog (sub [true, true, true, true, true, true, false, true, false, false, true, false, false, false, true, false, false, true, false, false] (bodyOf Try.f33)) Q a w := by
  rw [qF0]
  refine wp_seq ?_
  by_cases hp : (k + c) % 2 = 0
  case neg =>
    refine f16_no sz hF h22 h23 (by rw [tm2]; simpa using hp) hc hc' hk hk' ?_
    intro a1 hF1 k22 k23
    exact (hok F s (by unfold My.fStep; rw [if_pos hp]) a1 w hF1 k22 k23 ok (Sm.refl E w)).2
  refine f16_yes sz hF h22 h23 (by rw [tm2]; simpa using hp) hc hc' hk hk' ?_
  intro a1 hF1 k22 k23
  show Code.wp Try.prog (sub [true, true, true, true, true, true, false, true, false, false, true, false, false, false, true, false, false, true, false, false, true] (bodyOf Try.f33)) Q a1 w
  rw [qF1]
  refine wp_seq ?_
  by_cases hst : s - 1 < 0
  · refine f17_no sz hF1 k22 k23 ok hst (by omega) ?_
    intro a2 hR
    exact herr none (s - 1) (by unfold My.fStep; rw [if_neg (by omega), if_pos hst]) a2 _ hR ⟨F, ok.setS sz _⟩ ((Sm.refl E w).setCell (.inl rfl) _)
  refine f17_yes sz hF1 k22 k23 ok (by omega) hs1 ?_
  intro a2 hF2 l22 l23
  show Code.wp Try.prog (sub [true, true, true, true, true, true, false, true, false, false, true, false, false, false, true, false, false, true, false, false, true, true] (bodyOf Try.f33)) Q a2 _
  have ok1 := ok.setS sz (s - 1)
  have sm1 : Sm E w (w.setCell ⟨E.pd, 6, none⟩ (.int .i64 (s - 1))) := (Sm.refl E w).setCell (.inl rfl) _
  generalize w.setCell ⟨E.pd, 6, none⟩ (.int .i64 (s - 1)) = w1 at *
  rw [qF2]
  refine wp_seq ?_
  refine f20 sz hF2 l22 l23 ?_
  intro a3 hF3 m22 m23 m24
  show Code.wp Try.prog (sub [true, true, true, true, true, true, false, true, false, false, true, false, false, false, true, false, false, true, false, false, true, true, true] (bodyOf Try.f33)) Q a3 w1
  rw [qF3]
  refine wp_seq ?_
  refine f21 sz hF3 m22 m23 m24 hc hc' ?_
  clear hF3 m22 m23 m24
  intro a3 hF3 m22 m23 m24
  show Code.wp Try.prog (sub [true, true, true, true, true, true, false, true, false, false, true, false, false, false, true, false, false, true, false, false, true, true, true, true] (bodyOf Try.f33)) Q a3 w1
  rw [qF4]
  refine wp_seq ?_
  refine f23 sz hF3 m22 m23 m24 ok1 hc hc' hk hk' ?_
  clear hF3 m22 m23 m24
  intro a3 hF3 m22 m23 m24
  show Code.wp Try.prog (sub [true, true, true, true, true, true, false, true, false, false, true, false, false, false, true, false, false, true, false, false, true, true, true, true, true] (bodyOf Try.f33)) Q a3 w1
  rw [qF5]
  refine wp_seq ?_
  have b1 := ok1.fb (k + 1)
  have b2 := ok1.fb (k - 1)
  have b3 := ok1.fk (k + 1)
  have b4 := ok1.fk (k - 1)
  refine f27 sz hF3 m22 m23 m24 ok1 (by split <;> (try split) <;> omega) (by split <;> (try split) <;> omega) hc hc' hk hk' ?_
  clear hF3 m22 m23 m24
  intro a3 hF3 m22 m23 m24
  show Code.wp Try.prog (sub [true, true, true, true, true, true, false, true, false, false, true, false, false, false, true, false, false, true, false, false, true, true, true, true, true, true] (bodyOf Try.f33)) Q a3 w1
  have eX : (if -c < k ∧ 0 ≤ F (k - 1) ∧ F (k - 1) < E.n then max (if k < c ∧ 0 ≤ F (k + 1) ∧ F (k + 1) - (k + 1) < E.m then F (k + 1) else if c = 0 then 0 else -1) (F (k - 1) + 1) else (if k < c ∧ 0 ≤ F (k + 1) ∧ F (k + 1) - (k + 1) < E.m then F (k + 1) else if c = 0 then 0 else -1)) = My.stF E.n E.m c k F := rfl
  rw [eX] at m24
  have hxn : My.stF E.n E.m c k F ≤ E.n := by unfold My.stF; split <;> (try split) <;> (try split) <;> omega
  have hxk : 0 ≤ My.stF E.n E.m c k F → k ≤ My.stF E.n E.m c k F := by unfold My.stF; split <;> (try split) <;> (try split) <;> omega
  clear eX b1 b2 b3 b4
  have eS : My.fStep E.a E.b E.n E.m c k G F s = if My.stF E.n E.m c k F < 0 then .ok (F, s - 1)
      else if ((E.n : Int) - E.m) % 2 ≠ 0 ∧ (E.n : Int) - E.m - (c - 1) ≤ k ∧ k ≤ (E.n : Int) - E.m + (c - 1) ∧ 0 ≤ G k ∧ G k ≤ My.snF E.a E.b E.n E.m k E.n (My.stF E.n E.m c k F) then
        .error (some (My.stF E.n E.m c k F, My.stF E.n E.m c k F - k, My.snF E.a E.b E.n E.m k E.n (My.stF E.n E.m c k F), My.snF E.a E.b E.n E.m k E.n (My.stF E.n E.m c k F) - k), s - 1 - (My.snF E.a E.b E.n E.m k E.n (My.stF E.n E.m c k F) - My.stF E.n E.m c k F))
      else .ok (My.put F k (max (F k) (My.snF E.a E.b E.n E.m k E.n (My.stF E.n E.m c k F))), s - 1 - (My.snF E.a E.b E.n E.m k E.n (My.stF E.n E.m c k F) - My.stF E.n E.m c k F)) := by
    unfold My.fStep; rw [if_neg (by omega), if_neg hst]
  generalize My.stF E.n E.m c k F = x at *
  rw [qF6]
  refine wp_seq ?_
  by_cases hx : x < 0
  · refine f31_no sz hF3 m22 m23 m24 hx ?_
    intro a4 hF4 n22 n23
    exact (hok F (s - 1) (by rw [eS, if_pos hx]) a4 w1 hF4 n22 n23 ok1 sm1).2
  rw [if_neg hx] at eS
  refine f31_yes sz hF3 m22 m23 m24 (by omega) ?_
  clear hF3 m22 m23 m24
  intro a3 hF3 m22 m23 m24
  show Code.wp Try.prog (sub [true, true, true, true, true, true, false, true, false, false, true, false, false, false, true, false, false, true, false, false, true, true, true, true, true, true, true] (bodyOf Try.f33)) Q a3 w1
  rw [qF7]
  refine wp_seq ?_
  refine f32 sz hF3 m22 m23 m24 (by omega) hxn hk hk' ?_
  clear hF3 m22 m23 m24
  intro a3 hF3 m22 m23 m24 m27 m28
  show Code.wp Try.prog (sub [true, true, true, true, true, true, false, true, false, false, true, false, false, false, true, false, false, true, false, false, true, true, true, true, true, true, true, true] (bodyOf Try.f33)) Q a3 w1
  rw [qF8]
  refine wp_seq ?_
  rw [qFb]
  refine wp_block ?_
  rw [qFl]
  refine wp_loop_rounds (E.n + 1) ?_
  have zn := sz.n
  refine f_snake sz hk hk' E.n a3 w1 (s - 1) x hF3 m22 m23 m24 m27 m28 ok1 (by omega) (by omega) (by omega) (hxk (by omega)) (by omega) ?_
  have hxx : x ≤ My.snF E.a E.b E.n E.m k E.n x ∧ My.snF E.a E.b E.n E.m k E.n x ≤ E.n := snF_bd E.n x hxn
  generalize My.snF E.a E.b E.n E.m k E.n x = x' at *
  clear hF3 m22 m23 m24 m27 m28
  intro a3 w3 hF3 m22 m23 m24 m27 m28 ok3 sm3
  show Code.wp Try.prog (sub [true, true, true, true, true, true, false, true, false, false, true, false, false, false, true, false, false, true, false, false, true, true, true, true, true, true, true, true, true] (bodyOf Try.f33)) Q a3 w3
  have sm13 := sm1.trans sm3
  rw [qF9]
  refine wp_seq ?_
  refine f36 sz hF3 m22 m23 m24 m27 m28 ok3 (by have := hxk (by omega); omega) (by omega) hxx.2 hk hk' ?_
  clear hF3 m22 m23 m24 m27 m28
  intro a4 w4 hF3 m22 m23 m24 m27 m28 ok4 sm4
  show Code.wp Try.prog (sub [true, true, true, true, true, true, false, true, false, false, true, false, false, false, true, false, false, true, false, false, true, true, true, true, true, true, true, true, true, true] (bodyOf Try.f33)) Q a4 w4
  have sm14 := sm13.trans sm4
  refine f37 sz hF3 m22 m23 m24 m27 m28 ok4 (by omega) hxx.2 hc hc' hk hk' ?_ ?_
  · intro hn a5 hF5 n22 n23
    rw [if_neg hn] at eS
    exact (hok _ _ eS a5 w4 hF5 n22 n23 ok4 sm14).1
  · intro hn a5 hR
    rw [if_pos hn] at eS
    exact herr _ _ eS a5 w4 hR ⟨_, ok4⟩ sm14
end Go.Proofs.Qxb6601687a
