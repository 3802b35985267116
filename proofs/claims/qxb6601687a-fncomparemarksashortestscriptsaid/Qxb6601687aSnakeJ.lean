/-
  THE WALK OF middleSnake (function 33), part 5: the rounds; the head; the contract.
-/
import Derived.Test.Qxb6601687aSnakeI
namespace Go.Proofs.Qxb6601687a
open Go.RowKit
set_option linter.unusedVariables false
set_option linter.unusedSimpArgs false

theorem qO : sub [true, true, true, true, true, true, false, true, false, false] (bodyOf Try.f33) = .seq (sub [true, true, true, true, true, true, false, true, false, false, false] (bodyOf Try.f33)) (sub [true, true, true, true, true, true, false, true, false, false, true] (bodyOf Try.f33)) := by kernel_rfl
theorem qOr : sub [true, true, true, true, true, true, false, true, false, false, true] (bodyOf Try.f33) = .seq (sub [true, true, true, true, true, true, false, true, false, false, true, false] (bodyOf Try.f33)) (sub [true, true, true, true, true, true, false, true, false, false, true, true] (bodyOf Try.f33)) := by kernel_rfl
theorem qOb : sub [true, true, true, true, true, true, false, true, false, false, true, false] (bodyOf Try.f33) = .block 3 (sub [true, true, true, true, true, true, false, true, false, false, true, false, false] (bodyOf Try.f33)) := by kernel_rfl
theorem qOi : sub [true, true, true, true, true, true, false, true, false, false, true, false, false] (bodyOf Try.f33) = .seq (sub [true, true, true, true, true, true, false, true, false, false, true, false, false, false] (bodyOf Try.f33)) (sub [true, true, true, true, true, true, false, true, false, false, true, false, false, true] (bodyOf Try.f33)) := by kernel_rfl
theorem qOf : sub [true, true, true, true, true, true, false, true, false, false, true, false, false, false] (bodyOf Try.f33) = .seq (sub [true, true, true, true, true, true, false, true, false, false, true, false, false, false, false] (bodyOf Try.f33)) (sub [true, true, true, true, true, true, false, true, false, false, true, false, false, false, true] (bodyOf Try.f33)) := by kernel_rfl
theorem qOfb : sub [true, true, true, true, true, true, false, true, false, false, true, false, false, false, true] (bodyOf Try.f33) = .block 4 (sub [true, true, true, true, true, true, false, true, false, false, true, false, false, false, true, false] (bodyOf Try.f33)) := by kernel_rfl
theorem qOfl : sub [true, true, true, true, true, true, false, true, false, false, true, false, false, false, true, false] (bodyOf Try.f33) = .loop (sub [true, true, true, true, true, true, false, true, false, false, true, false, false, false, true, false, false] (bodyOf Try.f33)) := by kernel_rfl
theorem qOg : sub [true, true, true, true, true, true, false, true, false, false, true, false, false, true] (bodyOf Try.f33) = .seq (sub [true, true, true, true, true, true, false, true, false, false, true, false, false, true, false] (bodyOf Try.f33)) (sub [true, true, true, true, true, true, false, true, false, false, true, false, false, true, true] (bodyOf Try.f33)) := by kernel_rfl
theorem qOgb : sub [true, true, true, true, true, true, false, true, false, false, true, false, false, true, true] (bodyOf Try.f33) = .block 8 (sub [true, true, true, true, true, true, false, true, false, false, true, false, false, true, true, false] (bodyOf Try.f33)) := by kernel_rfl
theorem qOgl : sub [true, true, true, true, true, true, false, true, false, false, true, false, false, true, true, false] (bodyOf Try.f33) = .loop (sub [true, true, true, true, true, true, false, true, false, false, true, false, false, true, true, false, false] (bodyOf Try.f33)) := by kernel_rfl

theorem o_rounds {E : E33} {Q : Exit → Act → World → Prop} (sz : Sz E) (j : Nat) : ∀ (a : Act) (w : World) (F G : Int → Int) (s c : Int), Fx E a → get a 22 = .int .i64 c → Ok E w F G s →
    0 ≤ c → c + j = ((E.n : Int) + E.m + 1) / 2 + 1 → -2147483648 ≤ s → s ≤ 9223372036854775807 →
    (∀ o s', My.rounds E.a E.b E.n E.m j c F G s = (o, s') → ∀ a' w', Got a' o → (∃ F' G', Ok E w' F' G' s') → Sm E w w' → Q .ret a' w') →
    (∀ s', My.rounds E.a E.b E.n E.m j c F G s = (none, s') → ∀ a' w', Fx E a' → (∃ F' G', Ok E w' F' G' s') → Sm E w w' → Q (.exit 2) a' w') →
    Code.rounds Try.prog (sub [true, true, true, true, true, true, false, true, false, false] (bodyOf Try.f33)) Q (j + 1) a w := by
  have zn := sz.n
  have zm := sz.m
  induction j with
  | zero =>
    intro a w F G s c hF h22 ok hc hcj hs0 hs1 hret hout
    rw [rounds_succ, qO]
    refine wp_seq ?_
    refine o11_out sz hF h22 hc (by omega) (by omega) ?_
    intro a1 hF1
    exact hout s rfl a1 w hF1 ⟨F, G, ok⟩ (Sm.refl E w)
  | succ j ih =>
    intro a w F G s c hF h22 ok hc hcj hs0 hs1 hret hout
    rw [rounds_succ, qO]
    refine wp_seq ?_
    refine o11_in sz hF h22 hc (by omega) (by omega) ?_
    intro a1 hF1 k22
    show Code.wp Try.prog (sub [true, true, true, true, true, true, false, true, false, false, true] (bodyOf Try.f33)) _ a1 w
    rw [qOr]
    refine wp_seq ?_
    rw [qOb]
    refine wp_block ?_
    rw [qOi]
    refine wp_seq ?_
    rw [qOf]
    refine wp_seq ?_
    refine f13 sz hF1 k22 hc (by omega) ?_
    intro a2 hF2 l22 l23
    show Code.wp Try.prog (sub [true, true, true, true, true, true, false, true, false, false, true, false, false, false, true] (bodyOf Try.f33)) _ a2 w
    rw [qOfb]
    refine wp_block ?_
    rw [qOfl]
    refine wp_loop_rounds ((min c (E.n : Int) - max (-c) (-(E.m : Int)) + 1).toNat + 1) ?_
    refine f_row sz hc (by omega) _ a2 w F s (min c (E.n : Int)) hF2 l22 l23 ok (by omega) (by omega) hs0 hs1 ?_ ?_
    · intro F1 s1 hsw p1 p2 a3 w3 hF3 m22 ok3 sm3
      have hf : My.fRow E.a E.b E.n E.m c G F s = .ok (F1, s1) := hsw
      show Code.wp Try.prog (sub [true, true, true, true, true, true, false, true, false, false, true, false, false, true] (bodyOf Try.f33)) _ a3 w3
      rw [qOg]
      refine wp_seq ?_
      refine b41 sz hF3 m22 hc (by omega) ?_
      intro a4 hF4 n22 n30
      show Code.wp Try.prog (sub [true, true, true, true, true, true, false, true, false, false, true, false, false, true, true] (bodyOf Try.f33)) _ a4 w3
      rw [qOgb]
      refine wp_block ?_
      rw [qOgl]
      refine wp_loop_rounds ((min ((E.n : Int) - E.m + c) E.n - max ((E.n : Int) - E.m - c) (-(E.m : Int)) + 1).toNat + 1) ?_
      refine b_row sz hc (by omega) _ a4 w3 G s1 (min ((E.n : Int) - E.m + c) E.n) hF4 n22 n30 ok3 (by omega) (by omega) p1 p2 ?_ ?_
      · intro G1 s2 hsw2 p3 p4 a5 w5 hF5 o22 ok5 sm5
        have hb : My.bRow E.a E.b E.n E.m c F1 G s1 = .ok (G1, s2) := hsw2
        show Code.wp Try.prog (sub [true, true, true, true, true, true, false, true, false, false, true, true] (bodyOf Try.f33)) _ a5 w5
        refine o12 sz hF5 o22 hc (by omega) ?_
        intro a6 hF6 q22
        have hr : My.rounds E.a E.b E.n E.m (j + 1) c F G s = My.rounds E.a E.b E.n E.m j (c + 1) F1 G1 s2 := by simp only [My.rounds, hf, hb]
        refine ih a6 w5 F1 G1 s2 (c + 1) hF6 q22 ok5 (by omega) (by omega) p3 p4 ?_ ?_
        · intro o s3 h a7 w7 hG hO sm7
          exact hret o s3 (by rw [hr]; exact h) a7 w7 hG hO ((sm3.trans sm5).trans sm7)
        · intro s3 h a7 w7 hF7 hO sm7
          exact hout s3 (by rw [hr]; exact h) a7 w7 hF7 hO ((sm3.trans sm5).trans sm7)
      · intro o s2 hsw2 a5 w5 hG hO sm5
        have hb : My.bRow E.a E.b E.n E.m c F1 G s1 = .error (o, s2) := hsw2
        obtain ⟨G1, hO⟩ := hO
        exact hret o s2 (by simp only [My.rounds, hf, hb]) a5 w5 hG ⟨F1, G1, hO⟩ (sm3.trans sm5)
    · intro o s1 hsw a3 w3 hG hO sm3
      have hf : My.fRow E.a E.b E.n E.m c G F s = .error (o, s1) := hsw
      obtain ⟨F1, hO⟩ := hO
      exact hret o s1 (by simp only [My.rounds, hf]) a3 w3 hG ⟨F1, G, hO⟩ sm3
set_option maxHeartbeats 1000000 in
set_option maxRecDepth 100000 in
theorem h0 {E : E33} {a : Act} {w : World} {Q : Exit → Act → World → Prop} (hd : a.defers = []) (hs : a.tmps.size = 437) (h0 : get a 0 = .pointer (some ⟨E.pd, 0, none⟩)) (h1 : get a 1 = .int .i64 E.x0) (h2 : get a 2 = .int .i64 (E.x0 + E.n)) (h3 : get a 3 = .int .i64 E.y0) (h4 : get a 4 = .int .i64 (E.y0 + E.m)) 
    (hQ : Hid (∀ a', a'.defers = [] → a'.tmps.size = 437 → get a' 0 = .pointer (some ⟨E.pd, 0, none⟩) → get a' 1 = .int .i64 E.x0 → get a' 2 = .int .i64 (E.x0 + E.n) → get a' 3 = .int .i64 E.y0 → get a' 4 = .int .i64 (E.y0 + E.m) → get a' 10 = .int .i64 0 → get a' 11 = .int .i64 0 → get a' 12 = .int .i64 0 → get a' 13 = .int .i64 0 → get a' 14 = .bool false → Q .normal a' w)) :
    Code.wp Try.prog (sub [false] (bodyOf Try.f33)) Q a w := by
  conv => arg 2; whnf
  rw [lit33 a hd hs]
  generalize get a = g at *
  simp only [h0, h1, h2, h3, h4]
  clear hd hs h0 h1 h2 h3 h4
  go_wp2
  exact hQ.out _ rfl rfl rfl rfl rfl rfl rfl rfl rfl rfl rfl rfl
set_option maxHeartbeats 1000000 in
set_option maxRecDepth 100000 in
theorem h1 {E : E33} {a : Act} {w : World} {Q : Exit → Act → World → Prop} (hd : a.defers = []) (hs : a.tmps.size = 437) (h0 : get a 0 = .pointer (some ⟨E.pd, 0, none⟩)) (h1 : get a 1 = .int .i64 E.x0) (h2 : get a 2 = .int .i64 (E.x0 + E.n)) (h3 : get a 3 = .int .i64 E.y0) (h4 : get a 4 = .int .i64 (E.y0 + E.m)) (h10 : get a 10 = .int .i64 0) (h11 : get a 11 = .int .i64 0) (h12 : get a 12 = .int .i64 0) (h13 : get a 13 = .int .i64 0) (h14 : get a 14 = .bool false) (sz : Sz E)
    (hQ : Hid (∀ a', a'.defers = [] → a'.tmps.size = 437 → get a' 0 = .pointer (some ⟨E.pd, 0, none⟩) → get a' 1 = .int .i64 E.x0 → get a' 2 = .int .i64 (E.x0 + E.n) → get a' 3 = .int .i64 E.y0 → get a' 4 = .int .i64 (E.y0 + E.m) → get a' 10 = .int .i64 0 → get a' 11 = .int .i64 0 → get a' 12 = .int .i64 0 → get a' 13 = .int .i64 0 → get a' 14 = .bool false → get a' 15 = .int .i64 E.n → get a' 16 = .int .i64 E.m → Q .normal a' w)) :
    Code.wp Try.prog (sub [true, false] (bodyOf Try.f33)) Q a w := by
  conv => arg 2; whnf
  obtain ⟨z1, z2, z3, z4, z5, z6, z7, z8, z9, z10, e1, e2, e3, e4, e5, e6, e7, e8, e9, va, vb⟩ := sz
  clear e1 e2 e3 e4 e5 e6 e7 e8 e9 va vb
  rw [lit33 a hd hs]
  generalize get a = g at *
  simp only [h0, h1, h2, h3, h4, h10, h11, h12, h13, h14]
  clear hd hs h0 h1 h2 h3 h4 h10 h11 h12 h13 h14
  go_wp2
  exact hQ.out _ rfl rfl rfl rfl rfl rfl rfl rfl rfl rfl rfl rfl (congrArg (Value.int .i64) (by omega)) (congrArg (Value.int .i64) (by omega))
set_option maxHeartbeats 1000000 in
set_option maxRecDepth 100000 in
theorem h2 {E : E33} {a : Act} {w : World} {Q : Exit → Act → World → Prop} (hd : a.defers = []) (hs : a.tmps.size = 437) (h0 : get a 0 = .pointer (some ⟨E.pd, 0, none⟩)) (h1 : get a 1 = .int .i64 E.x0) (h2 : get a 2 = .int .i64 (E.x0 + E.n)) (h3 : get a 3 = .int .i64 E.y0) (h4 : get a 4 = .int .i64 (E.y0 + E.m)) (h10 : get a 10 = .int .i64 0) (h11 : get a 11 = .int .i64 0) (h12 : get a 12 = .int .i64 0) (h13 : get a 13 = .int .i64 0) (h14 : get a 14 = .bool false) (h15 : get a 15 = .int .i64 E.n) (h16 : get a 16 = .int .i64 E.m) (sz : Sz E)
    (hQ : Hid (∀ a', a'.defers = [] → a'.tmps.size = 437 → get a' 0 = .pointer (some ⟨E.pd, 0, none⟩) → get a' 1 = .int .i64 E.x0 → get a' 2 = .int .i64 (E.x0 + E.n) → get a' 3 = .int .i64 E.y0 → get a' 4 = .int .i64 (E.y0 + E.m) → get a' 10 = .int .i64 0 → get a' 11 = .int .i64 0 → get a' 12 = .int .i64 0 → get a' 13 = .int .i64 0 → get a' 14 = .bool false → get a' 15 = .int .i64 E.n → get a' 16 = .int .i64 E.m → get a' 17 = .int .i64 ((E.n : Int) - E.m) → Q .normal a' w)) :
    Code.wp Try.prog (sub [true, true, false] (bodyOf Try.f33)) Q a w := by
  conv => arg 2; whnf
  obtain ⟨z1, z2, z3, z4, z5, z6, z7, z8, z9, z10, e1, e2, e3, e4, e5, e6, e7, e8, e9, va, vb⟩ := sz
  clear e1 e2 e3 e4 e5 e6 e7 e8 e9 va vb
  rw [lit33 a hd hs]
  generalize get a = g at *
  simp only [h0, h1, h2, h3, h4, h10, h11, h12, h13, h14, h15, h16]
  clear hd hs h0 h1 h2 h3 h4 h10 h11 h12 h13 h14 h15 h16
  go_wp2
  exact hQ.out _ rfl rfl rfl rfl rfl rfl rfl rfl rfl rfl rfl rfl rfl rfl rfl
set_option maxHeartbeats 1000000 in
set_option maxRecDepth 100000 in
theorem h3 {E : E33} {a : Act} {w : World} {Q : Exit → Act → World → Prop} (hd : a.defers = []) (hs : a.tmps.size = 437) (h0 : get a 0 = .pointer (some ⟨E.pd, 0, none⟩)) (h1 : get a 1 = .int .i64 E.x0) (h2 : get a 2 = .int .i64 (E.x0 + E.n)) (h3 : get a 3 = .int .i64 E.y0) (h4 : get a 4 = .int .i64 (E.y0 + E.m)) (h10 : get a 10 = .int .i64 0) (h11 : get a 11 = .int .i64 0) (h12 : get a 12 = .int .i64 0) (h13 : get a 13 = .int .i64 0) (h14 : get a 14 = .bool false) (h15 : get a 15 = .int .i64 E.n) (h16 : get a 16 = .int .i64 E.m) (h17 : get a 17 = .int .i64 ((E.n : Int) - E.m)) (sz : Sz E)
    (hQ : Hid (∀ a', a'.defers = [] → a'.tmps.size = 437 → get a' 0 = .pointer (some ⟨E.pd, 0, none⟩) → get a' 1 = .int .i64 E.x0 → get a' 2 = .int .i64 (E.x0 + E.n) → get a' 3 = .int .i64 E.y0 → get a' 4 = .int .i64 (E.y0 + E.m) → get a' 10 = .int .i64 0 → get a' 11 = .int .i64 0 → get a' 12 = .int .i64 0 → get a' 13 = .int .i64 0 → get a' 14 = .bool false → get a' 15 = .int .i64 E.n → get a' 16 = .int .i64 E.m → get a' 17 = .int .i64 ((E.n : Int) - E.m) → get a' 18 = .int .i64 ((E.m : Int) + 1) → Q .normal a' w)) :
    Code.wp Try.prog (sub [true, true, true, false] (bodyOf Try.f33)) Q a w := by
  conv => arg 2; whnf
  obtain ⟨z1, z2, z3, z4, z5, z6, z7, z8, z9, z10, e1, e2, e3, e4, e5, e6, e7, e8, e9, va, vb⟩ := sz
  clear e1 e2 e3 e4 e5 e6 e7 e8 e9 va vb
  rw [lit33 a hd hs]
  generalize get a = g at *
  simp only [h0, h1, h2, h3, h4, h10, h11, h12, h13, h14, h15, h16, h17]
  clear hd hs h0 h1 h2 h3 h4 h10 h11 h12 h13 h14 h15 h16 h17
  go_wp2
  exact hQ.out _ rfl rfl rfl rfl rfl rfl rfl rfl rfl rfl rfl rfl rfl rfl rfl rfl
set_option maxHeartbeats 1000000 in
set_option maxRecDepth 100000 in
theorem h4 {E : E33} {a : Act} {w : World} {Q : Exit → Act → World → Prop} (hd : a.defers = []) (hs : a.tmps.size = 437) (h0 : get a 0 = .pointer (some ⟨E.pd, 0, none⟩)) (h1 : get a 1 = .int .i64 E.x0) (h2 : get a 2 = .int .i64 (E.x0 + E.n)) (h3 : get a 3 = .int .i64 E.y0) (h4 : get a 4 = .int .i64 (E.y0 + E.m)) (h10 : get a 10 = .int .i64 0) (h11 : get a 11 = .int .i64 0) (h12 : get a 12 = .int .i64 0) (h13 : get a 13 = .int .i64 0) (h14 : get a 14 = .bool false) (h15 : get a 15 = .int .i64 E.n) (h16 : get a 16 = .int .i64 E.m) (h17 : get a 17 = .int .i64 ((E.n : Int) - E.m)) (h18 : get a 18 = .int .i64 ((E.m : Int) + 1)) (sz : Sz E) (c4 : w.cell? ⟨E.pd, 4, none⟩ = some (.slice (some ⟨E.fb, 0, none⟩) E.N E.N)) (c5 : w.cell? ⟨E.pd, 5, none⟩ = some (.slice (some ⟨E.gb, 0, none⟩) E.N E.N))
    (hQ : Hid (∀ a' nq, a'.defers = [] → a'.tmps.size = 437 → get a' 0 = .pointer (some ⟨E.pd, 0, none⟩) → get a' 1 = .int .i64 E.x0 → get a' 2 = .int .i64 (E.x0 + E.n) → get a' 3 = .int .i64 E.y0 → get a' 4 = .int .i64 (E.y0 + E.m) → get a' 10 = .int .i64 0 → get a' 11 = .int .i64 0 → get a' 12 = .int .i64 0 → get a' 13 = .int .i64 0 → get a' 14 = .bool false → get a' 15 = .int .i64 E.n → get a' 16 = .int .i64 E.m → get a' 17 = .int .i64 ((E.n : Int) - E.m) → get a' 18 = .int .i64 ((E.m : Int) + 1) → get a' 19 = .slice (some ⟨E.fb, 0, none⟩) (E.n + E.m + 3) E.N → get a' 20 = .slice (some ⟨E.gb, 0, none⟩) (E.n + E.m + 3) E.N → Q .normal a' (w.drewN nq))) :
    Code.wp Try.prog (sub [true, true, true, true, false] (bodyOf Try.f33)) Q a w := by
  conv => arg 2; whnf
  obtain ⟨z1, z2, z3, z4, z5, z6, z7, z8, z9, z10, e1, e2, e3, e4, e5, e6, e7, e8, e9, va, vb⟩ := sz
  clear e1 e2 e3 e4 e5 e6 e7 e8 e9 va vb
  have hN : ((E.n : Int) + E.m + 3) ≤ E.N := by omega
  have e1 : ((E.n : Int) + E.m + 3).toNat = E.n + E.m + 3 := by omega
  rw [lit33 a hd hs]
  generalize get a = g at *
  simp only [h0, h1, h2, h3, h4, h10, h11, h12, h13, h14, h15, h16, h17, h18]
  clear hd hs h0 h1 h2 h3 h4 h10 h11 h12 h13 h14 h15 h16 h17 h18
  go_wp2
  go_quiet (fail)
  exact hQ.out _ _ rfl rfl rfl rfl rfl rfl rfl rfl rfl rfl rfl rfl rfl rfl rfl rfl (by first | rfl | (simp [get]; done)) (by first | rfl | (simp [get]; done))
set_option maxHeartbeats 1000000 in
set_option maxRecDepth 100000 in
theorem h5 {E : E33} {a : Act} {w : World} {Q : Exit → Act → World → Prop} (hd : a.defers = []) (hs : a.tmps.size = 437) (h0 : get a 0 = .pointer (some ⟨E.pd, 0, none⟩)) (h1 : get a 1 = .int .i64 E.x0) (h2 : get a 2 = .int .i64 (E.x0 + E.n)) (h3 : get a 3 = .int .i64 E.y0) (h4 : get a 4 = .int .i64 (E.y0 + E.m)) (h10 : get a 10 = .int .i64 0) (h11 : get a 11 = .int .i64 0) (h12 : get a 12 = .int .i64 0) (h13 : get a 13 = .int .i64 0) (h14 : get a 14 = .bool false) (h15 : get a 15 = .int .i64 E.n) (h16 : get a 16 = .int .i64 E.m) (h17 : get a 17 = .int .i64 ((E.n : Int) - E.m)) (h18 : get a 18 = .int .i64 ((E.m : Int) + 1)) (h19 : get a 19 = .slice (some ⟨E.fb, 0, none⟩) (E.n + E.m + 3) E.N) (h20 : get a 20 = .slice (some ⟨E.gb, 0, none⟩) (E.n + E.m + 3) E.N) (sz : Sz E)
    (hQ : Hid (∀ a', a'.defers = [] → a'.tmps.size = 437 → get a' 0 = .pointer (some ⟨E.pd, 0, none⟩) → get a' 1 = .int .i64 E.x0 → get a' 2 = .int .i64 (E.x0 + E.n) → get a' 3 = .int .i64 E.y0 → get a' 4 = .int .i64 (E.y0 + E.m) → get a' 10 = .int .i64 0 → get a' 11 = .int .i64 0 → get a' 12 = .int .i64 0 → get a' 13 = .int .i64 0 → get a' 14 = .bool false → get a' 15 = .int .i64 E.n → get a' 16 = .int .i64 E.m → get a' 17 = .int .i64 ((E.n : Int) - E.m) → get a' 18 = .int .i64 ((E.m : Int) + 1) → get a' 19 = .slice (some ⟨E.fb, 0, none⟩) (E.n + E.m + 3) E.N → get a' 20 = .slice (some ⟨E.gb, 0, none⟩) (E.n + E.m + 3) E.N → get a' 68 = .int .i64 ((E.n : Int) + E.m + 3) → get a' 69 = .int .i64 0 → Q .normal a' w)) :
    Code.wp Try.prog (sub [true, true, true, true, true, false, false] (bodyOf Try.f33)) Q a w := by
  conv => arg 2; whnf
  obtain ⟨z1, z2, z3, z4, z5, z6, z7, z8, z9, z10, e1, e2, e3, e4, e5, e6, e7, e8, e9, va, vb⟩ := sz
  clear e1 e2 e3 e4 e5 e6 e7 e8 e9 va vb
  rw [lit33 a hd hs]
  generalize get a = g at *
  simp only [h0, h1, h2, h3, h4, h10, h11, h12, h13, h14, h15, h16, h17, h18, h19, h20]
  clear hd hs h0 h1 h2 h3 h4 h10 h11 h12 h13 h14 h15 h16 h17 h18 h19 h20
  go_wp2
  exact hQ.out _ rfl rfl rfl rfl rfl rfl rfl rfl rfl rfl rfl rfl rfl rfl rfl rfl rfl rfl (congrArg (Value.int .i64) (by omega)) rfl
end Go.Proofs.Qxb6601687a
