/-
  THE WALK OF compare (function 32), part 4: the two halves; the whole, where the rows of the search are there.
-/
import Derived.Test.Qxb6601687aCompC
namespace Go.Proofs.Qxb6601687a
open Go.RowKit
set_option linter.unusedVariables false
set_option linter.unusedSimpArgs false

/-- what a call of compare comes to, the two rows of the search being there -/
def P32 (C : C32) (fb gb N : Nat) (w : World) (r : Bool × My.St) (e : Ending) (w' : World) : Prop :=
  e = .returned (.bool r.1) ∧ M C w' r.2.1 r.2.2.1 r.2.2.2 (.slice (some ⟨fb, 0, none⟩) N N) (.slice (some ⟨gb, 0, none⟩) N N) ∧ Al C w' fb gb N ∧ Sk C fb gb w w'

/-- what is known of calls with less to do -/
def IH32 (C : C32) (fb gb N f : Nat) : Prop :=
  ∀ (i0 i1 j0 j1 : Nat) (dl il : Nat → Bool) (s : Int) (w : World), i0 ≤ i1 → j0 ≤ j1 → i1 ≤ C.la → j1 ≤ C.lb → (i1 - i0) + (j1 - j0) < f → (i1 - i0) + (j1 - j0) + 3 ≤ N → -2147483648 ≤ s → s ≤ 9223372036854775807 →
    M C w dl il s (.slice (some ⟨fb, 0, none⟩) N N) (.slice (some ⟨gb, 0, none⟩) N N) → Al C w fb gb N →
    Calls Try.prog 32 #[.pointer (some ⟨C.pd, 0, none⟩), .int .i64 i0, .int .i64 i1, .int .i64 j0, .int .i64 j1] w (P32 C fb gb N w (My.cmp C.A C.B f i0 i1 j0 j1 (dl, il, s)))

theorem cast_add (a b : Nat) : ((a : Int) + (b : Int)) = ((a + b : Nat) : Int) := by omega

theorem results1 {fn : Func} (h : fn.results = #[.tmp 10]) (tmps : Array Value) (P : Program) (w : World) : (results fn tmps).run P w = .ok (tmps.getD 10 undef) w := by
  simp [results, h]

set_option maxHeartbeats 1000000 in
set_option maxRecDepth 100000 in
theorem p21 {C : C32} {a : Act} {w : World} {dl il : Nat → Bool} {s : Int} {fb gb N f i0 j0 n m x0 y0 x1 y1 : Nat} {Q : Exit → Act → World → Prop} (sz : Sz2 C) (hF : Fy C a) (h1 : get a 1 = .int .i64 i0) (h2 : get a 2 = .int .i64 ((i0 : Int) + n)) (h3 : get a 3 = .int .i64 j0) (h4 : get a 4 = .int .i64 ((j0 : Int) + m)) (h14 : get a 14 = .int .i64 (x0 : Int)) (h15 : get a 15 = .int .i64 (y0 : Int)) (h16 : get a 16 = .int .i64 (x1 : Int)) (h17 : get a 17 = .int .i64 (y1 : Int)) (h18 : get a 18 = .bool true)
    (mem : M C w dl il s (.slice (some ⟨fb, 0, none⟩) N N) (.slice (some ⟨gb, 0, none⟩) N N)) (al : Al C w fb gb N) (ih : IH32 C fb gb N f) (hn : i0 + n ≤ C.la) (hm : j0 + m ≤ C.lb) (hx0 : x0 ≤ n) (hy0 : y0 ≤ m) (hx1 : x1 ≤ n) (hy1 : y1 ≤ m) (hf1 : x0 + y0 < f) (hf2 : (n - x1) + (m - y1) < f) (hN : n + m + 3 ≤ N) (hs0 : -2147483648 ≤ s) (hs1 : s ≤ 9223372036854775807)
    (hs2 : ∀ st', My.cmp C.A C.B f i0 (i0 + x0) j0 (j0 + y0) (dl, il, s) = (true, st') → -2147483648 ≤ st'.2.2 ∧ st'.2.2 ≤ 9223372036854775807)
    (hQ : Hid (∀ a' w' r, (r = match My.cmp C.A C.B f i0 (i0 + x0) j0 (j0 + y0) (dl, il, s) with
        | (false, st') => (false, st')
        | (true, st') => My.cmp C.A C.B f (i0 + x1) (i0 + n) (j0 + y1) (j0 + m) st') → a'.defers = [] → get a' 10 = .bool r.1 →
        M C w' r.2.1 r.2.2.1 r.2.2.2 (.slice (some ⟨fb, 0, none⟩) N N) (.slice (some ⟨gb, 0, none⟩) N N) → Al C w' fb gb N → Sk C fb gb w w' → Q .ret a' w')) :
    Code.wp Try.prog (sub2 [true, true, true, true, true, true, true] (bodyOf Try.f32)) Q a w := by
  conv => arg 2; whnf
  obtain ⟨hd, hs, g0, g10⟩ := hF
  have zla := sz.la
  have zlb := sz.lb
  rw [lit32 a hd hs]
  generalize get a = g at *
  simp only [g0, g10, h1, h2, h3, h4, h14, h15, h16, h17, h18]
  clear hd hs g0 g10 h1 h2 h3 h4 h14 h15 h16 h17 h18
  have MEM : Hid (M C w dl il s (.slice (some ⟨fb, 0, none⟩) N N) (.slice (some ⟨gb, 0, none⟩) N N)) := mem
  have AL : Hid (Al C w fb gb N) := al
  have IH : Hid (IH32 C fb gb N f) := ih
  have HS : Hid (∀ st', My.cmp C.A C.B f i0 (i0 + x0) j0 (j0 + y0) (dl, il, s) = (true, st') → -2147483648 ≤ st'.2.2 ∧ st'.2.2 ≤ 9223372036854775807) := hs2
  clear mem al ih hs2
  go_wp2_with fail
  rw [cast_add i0 x0, cast_add j0 y0]
  refine (IH.out i0 (i0 + x0) j0 (j0 + y0) dl il s w (by omega) (by omega) (by omega) (by omega) (by omega) (by omega) hs0 hs1 MEM.out AL.out).mono ?_
  rintro e w1 ⟨rfl, mem1, al1, sk1⟩
  generalize hr : My.cmp C.A C.B f i0 (i0 + x0) j0 (j0 + y0) (dl, il, s) = r1 at *
  obtain ⟨ok, dl1, il1, s1⟩ := r1
  simp only [] at mem1
  have MEM1 : Hid (M C w1 dl1 il1 s1 (.slice (some ⟨fb, 0, none⟩) N N) (.slice (some ⟨gb, 0, none⟩) N N)) := mem1
  have AL1 : Hid (Al C w1 fb gb N) := al1
  have SK1 : Hid (Sk C fb gb w w1) := sk1
  clear mem1 al1 sk1 MEM AL hr
  cases ok with
  | false =>
    clear HS
    go_wp2_with fail
    exact hQ.out _ _ (false, dl1, il1, s1) rfl rfl rfl MEM1.out AL1.out SK1.out
  | true =>
    obtain ⟨hb1, hb2⟩ := HS.out (dl1, il1, s1) rfl
    simp only [] at hb1 hb2
    clear HS
    go_wp2_with fail
    rw [cast_add i0 x1, cast_add j0 y1, cast_add i0 n, cast_add j0 m]
    refine (IH.out (i0 + x1) (i0 + n) (j0 + y1) (j0 + m) dl1 il1 s1 w1 (by omega) (by omega) (by omega) (by omega) (by omega) (by omega) hb1 hb2 MEM1.out AL1.out).mono ?_
    rintro e w2 ⟨rfl, mem2, al2, sk2⟩
    generalize hr : My.cmp C.A C.B f (i0 + x1) (i0 + n) (j0 + y1) (j0 + m) (dl1, il1, s1) = r2 at *
    obtain ⟨ok2, dl2, il2, s2⟩ := r2
    simp only [] at mem2
    have MEM2 : Hid (M C w2 dl2 il2 s2 (.slice (some ⟨fb, 0, none⟩) N N) (.slice (some ⟨gb, 0, none⟩) N N)) := mem2
    have AL2 : Hid (Al C w2 fb gb N) := al2
    have SK2 : Hid (Sk C fb gb w w2) := SK1.out.trans sk2
    clear mem2 al2 sk2 MEM1 AL1 hr
    cases ok2
    all_goals
      go_wp2_with fail
      exact hQ.out _ _ (_, dl2, il2, s2) rfl rfl rfl MEM2.out AL2.out SK2.out
theorem k0 : sub2 [] (bodyOf Try.f32) = .seq (sub2 [false] (bodyOf Try.f32)) (sub2 [true] (bodyOf Try.f32)) := by kernel_rfl
theorem k1 : sub2 [true] (bodyOf Try.f32) = .seq (sub2 [true, false] (bodyOf Try.f32)) (sub2 [true, true] (bodyOf Try.f32)) := by kernel_rfl
theorem k1b : sub2 [true, false] (bodyOf Try.f32) = .block 0 (sub2 [true, false, false] (bodyOf Try.f32)) := by kernel_rfl
theorem k1o : sub2 [true, false, false] (bodyOf Try.f32) = .loop (sub2 [true, false, false, false] (bodyOf Try.f32)) := by kernel_rfl
theorem k2 : sub2 [true, true] (bodyOf Try.f32) = .seq (sub2 [true, true, false] (bodyOf Try.f32)) (sub2 [true, true, true] (bodyOf Try.f32)) := by kernel_rfl
theorem k2b : sub2 [true, true, false] (bodyOf Try.f32) = .block 2 (sub2 [true, true, false, false] (bodyOf Try.f32)) := by kernel_rfl
theorem k2o : sub2 [true, true, false, false] (bodyOf Try.f32) = .loop (sub2 [true, true, false, false, false] (bodyOf Try.f32)) := by kernel_rfl
theorem k3 : sub2 [true, true, true] (bodyOf Try.f32) = .seq (sub2 [true, true, true, false] (bodyOf Try.f32)) (sub2 [true, true, true, true] (bodyOf Try.f32)) := by kernel_rfl
theorem k3l : sub2 [true, true, true, false] (bodyOf Try.f32) = .seq (sub2 [true, true, true, false, false] (bodyOf Try.f32)) (sub2 [true, true, true, false, true] (bodyOf Try.f32)) := by kernel_rfl
theorem k3c : sub2 [true, true, true, false, true] (bodyOf Try.f32) = .cond (.tmp 86) (sub2 [true, true, true, false, true, false] (bodyOf Try.f32)) (sub2 [true, true, true, false, true, true] (bodyOf Try.f32)) := by kernel_rfl
theorem k3s : sub2 [true, true, true, false, true, true] (bodyOf Try.f32) = .skip := by kernel_rfl
theorem k3x : sub2 [true, true, true, false, true, false] (bodyOf Try.f32) = .seq (sub2 [true, true, true, false, true, false, false] (bodyOf Try.f32)) (sub2 [true, true, true, false, true, false, true] (bodyOf Try.f32)) := by kernel_rfl
theorem k3xl : sub2 [true, true, true, false, true, false, false] (bodyOf Try.f32) = .seq (sub2 [true, true, true, false, true, false, false, false] (bodyOf Try.f32)) (sub2 [true, true, true, false, true, false, false, true] (bodyOf Try.f32)) := by kernel_rfl
theorem k3xb : sub2 [true, true, true, false, true, false, false, true] (bodyOf Try.f32) = .block 4 (sub2 [true, true, true, false, true, false, false, true, false] (bodyOf Try.f32)) := by kernel_rfl
theorem k3xo : sub2 [true, true, true, false, true, false, false, true, false] (bodyOf Try.f32) = .loop (sub2 [true, true, true, false, true, false, false, true, false, false] (bodyOf Try.f32)) := by kernel_rfl
theorem k3y : sub2 [true, true, true, false, true, false, true] (bodyOf Try.f32) = .seq (sub2 [true, true, true, false, true, false, true, false] (bodyOf Try.f32)) (sub2 [true, true, true, false, true, false, true, true] (bodyOf Try.f32)) := by kernel_rfl
theorem k3yl : sub2 [true, true, true, false, true, false, true, false] (bodyOf Try.f32) = .seq (sub2 [true, true, true, false, true, false, true, false, false] (bodyOf Try.f32)) (sub2 [true, true, true, false, true, false, true, false, true] (bodyOf Try.f32)) := by kernel_rfl
theorem k3yb : sub2 [true, true, true, false, true, false, true, false, true] (bodyOf Try.f32) = .block 6 (sub2 [true, true, true, false, true, false, true, false, true, false] (bodyOf Try.f32)) := by kernel_rfl
theorem k3yo : sub2 [true, true, true, false, true, false, true, false, true, false] (bodyOf Try.f32) = .loop (sub2 [true, true, true, false, true, false, true, false, true, false, false] (bodyOf Try.f32)) := by kernel_rfl
theorem k4 : sub2 [true, true, true, true] (bodyOf Try.f32) = .seq (sub2 [true, true, true, true, false] (bodyOf Try.f32)) (sub2 [true, true, true, true, true] (bodyOf Try.f32)) := by kernel_rfl
theorem k4l : sub2 [true, true, true, true, false] (bodyOf Try.f32) = .seq (sub2 [true, true, true, true, false, false] (bodyOf Try.f32)) (sub2 [true, true, true, true, false, true] (bodyOf Try.f32)) := by kernel_rfl
theorem k4c : sub2 [true, true, true, true, false, true] (bodyOf Try.f32) = .cond (.tmp 115) (sub2 [true, true, true, true, false, true, false] (bodyOf Try.f32)) (sub2 [true, true, true, true, false, true, true] (bodyOf Try.f32)) := by kernel_rfl
theorem k5 : sub2 [true, true, true, true, true] (bodyOf Try.f32) = .seq (sub2 [true, true, true, true, true, false] (bodyOf Try.f32)) (sub2 [true, true, true, true, true, true] (bodyOf Try.f32)) := by kernel_rfl
theorem k6 : sub2 [true, true, true, true, true, true] (bodyOf Try.f32) = .seq (sub2 [true, true, true, true, true, true, false] (bodyOf Try.f32)) (sub2 [true, true, true, true, true, true, true] (bodyOf Try.f32)) := by kernel_rfl
set_option maxHeartbeats 1000000 in
set_option maxRecDepth 100000 in
theorem p0 {C : C32} {a : Act} {w : World} {i0 i1 j0 j1 : Nat} {Q : Exit → Act → World → Prop} (hd : a.defers = []) (hs : a.tmps.size = 192) (h0 : get a 0 = .pointer (some ⟨C.pd, 0, none⟩)) (h1 : get a 1 = .int .i64 i0) (h2 : get a 2 = .int .i64 i1) (h3 : get a 3 = .int .i64 j0) (h4 : get a 4 = .int .i64 j1)
    (hQ : Hid (∀ a', Fy C a' → get a' 1 = .int .i64 i0 → get a' 2 = .int .i64 i1 → get a' 3 = .int .i64 j0 → get a' 4 = .int .i64 j1 → Q .normal a' w)) :
    Code.wp Try.prog (sub2 [false] (bodyOf Try.f32)) Q a w := by
  conv => arg 2; whnf
  rw [lit32 a hd hs]
  generalize get a = g at *
  simp only [h0, h1, h2, h3, h4]
  clear hd hs h0 h1 h2 h3 h4
  go_wp2
  exact hQ.out _ ⟨rfl, rfl, rfl, rfl⟩ rfl rfl rfl rfl

theorem post32 {R : Ending → World → Prop} {a : Act} {w : World} {b : Bool} (hd : a.defers = []) (h : get a 10 = .bool b) (hR : R (.returned (.bool b)) w) : bodyPost Try.prog Try.f32 R .ret a w := by
  refine bodyPost_ret (v := .bool b) ?_ hd hR
  rw [results1 rfl]
  unfold get at h
  rw [h]

theorem evalTmp (a : Act) (t : Nat) (v : Value) (h : get a t = v) : a.eval (.tmp t) = v := h

/-- from the trims on -/
theorem cmp_head {C : C32} {w : World} {dl il : Nat → Bool} {s : Int} {vf vg : Value} {i0 i1 j0 j1 p q u v : Nat} {R : Ending → World → Prop} (sz : Sz2 C) (hi : i0 ≤ i1) (hj : j0 ≤ j1) (hla : i1 ≤ C.la) (hlb : j1 ≤ C.lb)
    (e1 : My.trimL C.A C.B i1 j1 (i1 - i0) i0 j0 = (p, q)) (e2 : My.trimR C.A C.B p q (i1 - p) i1 j1 = (u, v)) (tr : My.Trim C.A C.B i0 i1 j0 j1 p u q v)
    (mem : M C w dl il s vf vg)
    (hE : p = u ∨ q = v → ∀ w', M C w' (My.mk dl p u) (My.mk il q v) s vf vg → Kp C w w' → R (.returned (.bool true)) w')
    (hN : p < u → q < v → ∀ a' w', Fy C a' → get a' 1 = .int .i64 (p : Nat) → get a' 2 = .int .i64 (u : Nat) → get a' 3 = .int .i64 (q : Nat) → get a' 4 = .int .i64 (v : Nat) → M C w' dl il s vf vg → Kp C w w' → Code.wp Try.prog (sub2 [true, true, true, true] (bodyOf Try.f32)) (bodyPost Try.prog Try.f32 R) a' w') :
    Calls Try.prog 32 #[.pointer (some ⟨C.pd, 0, none⟩), .int .i64 i0, .int .i64 i1, .int .i64 j0, .int .i64 j1] w R := by
  have t1 := tr.p0; have t2 := tr.pu; have t3 := tr.u1; have t4 := tr.q0; have t5 := tr.qv; have t6 := tr.v1
  refine calls_of_wp (c := sub2 [] (bodyOf Try.f32)) Try.func32 (by kernel_rfl) ?_
  rw [k0]
  refine wp_seq ?_
  refine p0 (C := C) rfl (by rw [Try.ntmps32]; exact start_size _ _ (by show 5 ≤ 192; omega)) (start_get _ _ 0 _ rfl) (start_get _ _ 1 _ rfl) (start_get _ _ 2 _ rfl) (start_get _ _ 3 _ rfl) (start_get _ _ 4 _ rfl) ?_
  intro a hF h1 h2 h3 h4
  show Code.wp Try.prog (sub2 [true] (bodyOf Try.f32)) _ a w
  rw [k1]
  refine wp_seq ?_
  rw [k1b]
  refine wp_block ?_
  rw [k1o]
  refine wp_loop_rounds (i1 - i0 + 1) ?_
  refine t1_rounds sz (i1 - i0) a w i0 j0 hF h1 h2 h3 h4 mem hla hlb (by omega) ?_
  rw [e1]
  clear hF h1 h2 h3 h4 a
  intro a w1 hF h1 h2 h3 h4 mem1 kp1
  simp only [] at h1 h3
  show Code.wp Try.prog (sub2 [true, true] (bodyOf Try.f32)) _ a w1
  rw [k2]
  refine wp_seq ?_
  rw [k2b]
  refine wp_block ?_
  rw [k2o]
  refine wp_loop_rounds (i1 - p + 1) ?_
  refine t2_rounds sz (i1 - p) a w1 i1 j1 hF h1 h2 h3 h4 mem1 hla hlb (by omega) ?_
  rw [e2]
  clear hF h1 h2 h3 h4 a
  intro a w2 hF h1 h2 h3 h4 mem2 kp2
  simp only [] at h2 h4
  have kp := kp1.trans kp2
  show Code.wp Try.prog (sub2 [true, true, true] (bodyOf Try.f32)) _ a w2
  rw [k3]
  refine wp_seq ?_
  rw [k3l]
  refine wp_seq ?_
  by_cases hne : p < u ∧ q < v
  · refine p5_ne sz hF h1 h2 h3 h4 hne.1 hne.2 ?_
    clear hF h1 h2 h3 h4 a
    intro a hF h1 h2 h3 h4 h86
    show Code.wp Try.prog (sub2 [true, true, true, false, true] (bodyOf Try.f32)) _ a w2
    rw [k3c]
    refine wp_cond_false (evalTmp a 86 _ h86) ?_
    rw [k3s]
    refine wp_skip ?_
    show Code.wp Try.prog (sub2 [true, true, true, true] (bodyOf Try.f32)) _ a w2
    exact hN hne.1 hne.2 a w2 hF h1 h2 h3 h4 mem2 kp
  · have he : p = u ∨ q = v := by omega
    have go : Hid (∀ a', Fy C a' → get a' 1 = .int .i64 (p : Nat) → get a' 2 = .int .i64 (u : Nat) → get a' 3 = .int .i64 (q : Nat) → get a' 4 = .int .i64 (v : Nat) → get a' 86 = .bool true → Code.wp Try.prog (sub2 [true, true, true, false, true] (bodyOf Try.f32)) (Exit.then (Code.wp Try.prog (sub2 [true, true, true, true] (bodyOf Try.f32)) (bodyPost Try.prog Try.f32 R)) (bodyPost Try.prog Try.f32 R)) a' w2) := by
      clear hF h1 h2 h3 h4 a
      intro a hF h1 h2 h3 h4 h86
      rw [k3c]
      refine wp_cond_true (evalTmp a 86 _ h86) ?_
      rw [k3x]
      refine wp_seq ?_
      rw [k3xl]
      refine wp_seq ?_
      refine p6 sz hF h1 h2 h3 h4 ?_
      clear hF h1 h2 h3 h4 h86 a
      intro a hF h1 h2 h3 h4 h11
      show Code.wp Try.prog (sub2 [true, true, true, false, true, false, false, true] (bodyOf Try.f32)) _ a w2
      rw [k3xb]
      refine wp_block ?_
      rw [k3xo]
      refine wp_loop_rounds (u - p + 1) ?_
      refine m3_rounds sz (u - p) a w2 p dl hF h1 h2 h3 h4 h11 mem2 (by omega) (by omega) ?_
      clear hF h1 h2 h3 h4 h11 a
      intro a w3 hF h1 h2 h3 h4 mem3 kp3
      show Code.wp Try.prog (sub2 [true, true, true, false, true, false, true] (bodyOf Try.f32)) _ a w3
      rw [k3y]
      refine wp_seq ?_
      rw [k3yl]
      refine wp_seq ?_
      refine p10 sz hF h1 h2 h3 h4 ?_
      clear hF h1 h2 h3 h4 a
      intro a hF h1 h2 h3 h4 h12
      show Code.wp Try.prog (sub2 [true, true, true, false, true, false, true, false, true] (bodyOf Try.f32)) _ a w3
      rw [k3yb]
      refine wp_block ?_
      rw [k3yo]
      refine wp_loop_rounds (v - q + 1) ?_
      refine m4_rounds sz (v - q) a w3 q il hF h1 h2 h3 h4 h12 mem3 (by omega) (by omega) ?_
      clear hF h1 h2 h3 h4 h12 a
      intro a w4 hF h1 h2 h3 h4 mem4 kp4
      show Code.wp Try.prog (sub2 [true, true, true, false, true, false, true, true] (bodyOf Try.f32)) _ a w4
      refine p14 sz hF h1 h2 h3 h4 ?_
      intro a' hd' h10
      simp only [Exit.then]
      exact post32 hd' h10 (hE he w4 mem4 ((kp.trans kp3).trans kp4))
    by_cases h5 : p = u
    · exact p5_eq1 sz hF h1 h2 h3 h4 h5 go
    · exact p5_eq2 sz hF h1 h2 h3 h4 (by omega) (by omega) go

/-- the search and the two halves -/
theorem cmp_rest {C : C32} {a : Act} {w : World} {dl il : Nat → Bool} {s : Int} {fb gb N f p q u v : Nat} {R : Ending → World → Prop} (sz : Sz2 C) (hF : Fy C a) (h1 : get a 1 = .int .i64 (p : Nat)) (h2 : get a 2 = .int .i64 (u : Nat)) (h3 : get a 3 = .int .i64 (q : Nat)) (h4 : get a 4 = .int .i64 (v : Nat))
    (mem : M C w dl il s (.slice (some ⟨fb, 0, none⟩) N N) (.slice (some ⟨gb, 0, none⟩) N N)) (al : Al C w fb gb N) (ih : IH32 C fb gb N f) (hpu : p < u) (hqv : q < v) (hne : C.A p ≠ C.B q) (hnr : C.A (u - 1) ≠ C.B (v - 1)) (hu : u ≤ C.la) (hv : v ≤ C.lb) (hf : (u - p) + (v - q) ≤ f) (hN : (u - p) + (v - q) + 3 ≤ N) (hs0 : -2147483648 ≤ s) (hs1 : s ≤ 9223372036854775807)
    (hR : ∀ w' r, r = My.core C.A C.B (My.cmp C.A C.B f) p u q v (dl, il, s) → M C w' r.2.1 r.2.2.1 r.2.2.2 (.slice (some ⟨fb, 0, none⟩) N N) (.slice (some ⟨gb, 0, none⟩) N N) → Al C w' fb gb N → Sk C fb gb w w' → R (.returned (.bool r.1)) w') :
    Code.wp Try.prog (sub2 [true, true, true, true, true] (bodyOf Try.f32)) (bodyPost Try.prog Try.f32 R) a w := by
  have zla := sz.la
  have zlb := sz.lb
  have eu : ((u : Nat) : Int) = (p : Int) + ((u - p : Nat) : Int) := by omega
  have ev : ((v : Nat) : Int) = (q : Int) + ((v - q : Nat) : Int) := by omega
  have zu : p + (u - p) ≤ C.la := by omega
  have zv : q + (v - q) ≤ C.lb := by omega
  have hcc := My.core_cases C.A C.B (My.cmp C.A C.B f) dl il s hpu hqv hne hnr
  have hfell := My.ms_fell (fun i => C.A (p + i)) (fun j => C.B (q + j)) (u - p) (v - q) s
  rw [k5]
  refine wp_seq ?_
  refine p18 (i := 0) (j := 0) (n := u - p) (m := v - q) sz hF h1 (h2.trans (congrArg (Value.int .i64) eu)) h3 (h4.trans (congrArg (Value.int .i64) ev)) mem al zu zv hN hs0 hs1 ?_ ?_
  · intro s' hms a1 w1 hF1 m1 m2 m3 m4 m18 mem1 al1 sk1
    show Code.wp Try.prog (sub2 [true, true, true, true, true, true] (bodyOf Try.f32)) _ a1 w1
    rcases hcc with ⟨s2, hm2, hneg, hco⟩ | ⟨r, s2, hm2, _⟩
    · rw [hms] at hm2
      simp only [Prod.mk.injEq, true_and] at hm2
      subst hm2
      rw [k6]
      refine wp_seq ?_
      refine p19_no sz hF1 m1 m2 m3 m4 m18 ?_
      intro a2 hd2 h10
      simp only [Exit.then]
      exact post32 hd2 h10 (hR w1 (false, dl, il, s') hco.symm mem1 al1 sk1)
    · rw [hms] at hm2; simp at hm2
  · intro r s' hms a1 w1 hF1 m1 m2 m3 m4 m14 m15 m16 m17 m18 mem1 al1 sk1
    show Code.wp Try.prog (sub2 [true, true, true, true, true, true] (bodyOf Try.f32)) _ a1 w1
    rcases hcc with ⟨s2, hm2, _⟩ | ⟨r2, s2, hm2, g, hsp, hs1', hco⟩
    · rw [hms] at hm2; simp at hm2
    · rw [hms] at hm2 hfell
      simp only [Prod.mk.injEq, Option.some.injEq] at hm2
      obtain ⟨rfl, rfl⟩ := hm2
      unfold My.Fell at hfell
      simp only [] at hfell
      have g1 := g.x0; have g2 := g.x1; have g3 := g.xn; have g4 := g.y0; have g5 := g.y1; have g6 := g.ym
      obtain ⟨r1, r2, r3, r4⟩ := r
      simp only [] at g1 g2 g3 g4 g5 g6 hsp hco m14 m15 m16 m17
      obtain ⟨x0, rfl⟩ := Int.eq_ofNat_of_zero_le g1
      obtain ⟨y0, rfl⟩ := Int.eq_ofNat_of_zero_le g4
      obtain ⟨x1, rfl⟩ := Int.eq_ofNat_of_zero_le (show 0 ≤ r3 by omega)
      obtain ⟨y1, rfl⟩ := Int.eq_ofNat_of_zero_le (show 0 ≤ r4 by omega)
      simp only [Int.toNat_natCast] at hco
      rw [k6]
      refine wp_seq ?_
      refine p19_yes sz hF1 m1 m2 m3 m4 m14 m15 m16 m17 m18 (by omega) (by omega) (by omega) (by omega) (fun h h' => hsp (.inl ⟨by omega, by omega⟩)) (fun h h' => hsp (.inr ⟨by omega, by omega⟩)) ?_
      clear hF1 m1 m2 m3 m4 m14 m15 m16 m17 m18 a1
      intro a1 hF1 m1 m2 m3 m4 m14 m15 m16 m17 m18
      show Code.wp Try.prog (sub2 [true, true, true, true, true, true, true] (bodyOf Try.f32)) _ a1 w1
      have hb := My.cmp_fell C.A C.B f p (p + x0) q (q + y0) (dl, il, s') (by omega) (by omega) (by omega) (by omega)
      refine p21 sz hF1 m1 m2 m3 m4 m14 m15 m16 m17 m18 mem1 al1 ih (by omega) (by omega) (by omega) (by omega) (by omega) (by omega) (by omega) (by omega) (by omega) (by omega) (by omega) ?_ ?_
      · intro st' h
        rw [h] at hb
        simp only [] at hb
        omega
      · intro a2 w2 r hr hd2 h10 mem2 al2 sk2
        rw [show p + (u - p) = u by omega, show q + (v - q) = v by omega] at hr
        exact post32 hd2 h10 (hR w2 r (hr.trans hco.symm) mem2 al2 (sk1.trans sk2))

/-- THE CONTRACT OF compare, the rows of the search being there -/
theorem cmp_al {C : C32} (sz : Sz2 C) (fb gb N : Nat) (f : Nat) : IH32 C fb gb N f := by
  induction f with
  | zero => intro i0 i1 j0 j1 dl il s w _ _ _ _ h; omega
  | succ f ih =>
    intro i0 i1 j0 j1 dl il s w hi hj hla hlb hf hN hs0 hs1 mem al
    obtain ⟨p, q, u, v, e1, e2, tr⟩ := My.trim_spec C.A C.B i0 i1 j0 j1 hi hj
    have t1 := tr.p0; have t2 := tr.pu; have t3 := tr.u1; have t4 := tr.q0; have t5 := tr.qv; have t6 := tr.v1
    rw [My.cmp_step C.A C.B f i0 i1 j0 j1 _ e1 e2]
    refine cmp_head sz hi hj hla hlb e1 e2 tr mem ?_ ?_
    · intro he w' mem' kp'
      rw [if_pos he]
      exact ⟨rfl, mem', al.kp kp', kp'.sk fb gb⟩
    · intro hpu hqv a' w' hF h1 h2 h3 h4 mem' kp'
      rw [if_neg (by omega)]
      rw [k4]
      refine wp_seq ?_
      refine p15_al sz hF h1 h2 h3 h4 mem' ?_
      clear hF h1 h2 h3 h4 a'
      intro a' hF h1 h2 h3 h4
      show Code.wp Try.prog (sub2 [true, true, true, true, true] (bodyOf Try.f32)) _ a' w'
      refine cmp_rest sz hF h1 h2 h3 h4 mem' (al.kp kp') ih hpu hqv (tr.ne hpu hqv) (tr.nr hpu hqv) (by omega) (by omega) (by omega) (by omega) hs0 hs1 ?_
      intro w2 r hr mem2 al2 sk2
      rw [← hr]
      exact ⟨rfl, mem2, al2, (kp'.sk fb gb).trans sk2⟩
#print axioms cmp_al
end Go.Proofs.Qxb6601687a
