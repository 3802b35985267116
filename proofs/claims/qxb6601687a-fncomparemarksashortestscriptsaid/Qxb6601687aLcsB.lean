/-
  THE WALK OF zzLcs (function 34) and zzEditDistance (function 22), put together.
-/
import Derived.Test.Qxb6601687aLcsA
import Derived.Test.Qxb6601687aCompE
namespace Go.Proofs.Qxb6601687a
open Go.RowKit
set_option linter.unusedVariables false
set_option linter.unusedSimpArgs false

theorem c0 : sub2 [] (bodyOf Try.f34) = .seq (sub2 [false] (bodyOf Try.f34)) (sub2 [true] (bodyOf Try.f34)) := by kernel_rfl
theorem c1 : sub2 [true] (bodyOf Try.f34) = .seq (sub2 [true, false] (bodyOf Try.f34)) (sub2 [true, true] (bodyOf Try.f34)) := by kernel_rfl
theorem c2 : sub2 [true, true] (bodyOf Try.f34) = .seq (sub2 [true, true, false] (bodyOf Try.f34)) (sub2 [true, true, true] (bodyOf Try.f34)) := by kernel_rfl
theorem c3 : sub2 [true, true, true] (bodyOf Try.f34) = .seq (sub2 [true, true, true, false] (bodyOf Try.f34)) (sub2 [true, true, true, true] (bodyOf Try.f34)) := by kernel_rfl
theorem c3l : sub2 [true, true, true, false] (bodyOf Try.f34) = .seq (sub2 [true, true, true, false, false] (bodyOf Try.f34)) (sub2 [true, true, true, false, true] (bodyOf Try.f34)) := by kernel_rfl
theorem c3b : sub2 [true, true, true, false, true] (bodyOf Try.f34) = .block 0 (sub2 [true, true, true, false, true, false] (bodyOf Try.f34)) := by kernel_rfl
theorem c3o : sub2 [true, true, true, false, true, false] (bodyOf Try.f34) = .loop (sub2 [true, true, true, false, true, false, false] (bodyOf Try.f34)) := by kernel_rfl
theorem cB1 : sub2 [true, true, true, false, true, false, false] (bodyOf Try.f34) = .seq (sub2 [true, true, true, false, true, false, false, false] (bodyOf Try.f34)) (sub2 [true, true, true, false, true, false, false, true] (bodyOf Try.f34)) := by kernel_rfl
theorem cB1r : sub2 [true, true, true, false, true, false, false, true] (bodyOf Try.f34) = .seq (sub2 [true, true, true, false, true, false, false, true, false] (bodyOf Try.f34)) (sub2 [true, true, true, false, true, false, false, true, true] (bodyOf Try.f34)) := by kernel_rfl
theorem cB1b : sub2 [true, true, true, false, true, false, false, true, false] (bodyOf Try.f34) = .block 1 (sub2 [true, true, true, false, true, false, false, true, false, false] (bodyOf Try.f34)) := by kernel_rfl
theorem cIN : sub2 [true, true, true, false, true, false, false, true, false, false] (bodyOf Try.f34) = .seq (sub2 [true, true, true, false, true, false, false, true, false, false, false] (bodyOf Try.f34)) (sub2 [true, true, true, false, true, false, false, true, false, false, true] (bodyOf Try.f34)) := by kernel_rfl
theorem cINr : sub2 [true, true, true, false, true, false, false, true, false, false, true] (bodyOf Try.f34) = .seq (sub2 [true, true, true, false, true, false, false, true, false, false, true, false] (bodyOf Try.f34)) (sub2 [true, true, true, false, true, false, false, true, false, false, true, true] (bodyOf Try.f34)) := by kernel_rfl
theorem cINl : sub2 [true, true, true, false, true, false, false, true, false, false, true, false] (bodyOf Try.f34) = .seq (sub2 [true, true, true, false, true, false, false, true, false, false, true, false, false] (bodyOf Try.f34)) (sub2 [true, true, true, false, true, false, false, true, false, false, true, false, true] (bodyOf Try.f34)) := by kernel_rfl
theorem cINb : sub2 [true, true, true, false, true, false, false, true, false, false, true, false, true] (bodyOf Try.f34) = .block 2 (sub2 [true, true, true, false, true, false, false, true, false, false, true, false, true, false] (bodyOf Try.f34)) := by kernel_rfl
theorem cINo : sub2 [true, true, true, false, true, false, false, true, false, false, true, false, true, false] (bodyOf Try.f34) = .loop (sub2 [true, true, true, false, true, false, false, true, false, false, true, false, true, false, false] (bodyOf Try.f34)) := by kernel_rfl
theorem cB2 : sub2 [true, true, true, false, true, false, false, true, false, false, true, false, true, false, false] (bodyOf Try.f34) = .seq (sub2 [true, true, true, false, true, false, false, true, false, false, true, false, true, false, false, false] (bodyOf Try.f34)) (sub2 [true, true, true, false, true, false, false, true, false, false, true, false, true, false, false, true] (bodyOf Try.f34)) := by kernel_rfl
theorem cB2r : sub2 [true, true, true, false, true, false, false, true, false, false, true, false, true, false, false, true] (bodyOf Try.f34) = .seq (sub2 [true, true, true, false, true, false, false, true, false, false, true, false, true, false, false, true, false] (bodyOf Try.f34)) (sub2 [true, true, true, false, true, false, false, true, false, false, true, false, true, false, false, true, true] (bodyOf Try.f34)) := by kernel_rfl

theorem j_rounds {X : X34} {w0 : World} {pb cb i : Nat} {p : Nat → Int} {Q : Exit → Act → World → Prop} (hi : i < X.lx) (hp : ∀ t, t ≤ X.ly → p t = (My.L X.f X.g i t : Int)) (k : Nat) : ∀ (a : Act) (w : World) (j : Nat) (c : Nat → Int), Fz X a → get a 5 = .slice (some ⟨pb, 0, none⟩) (X.ly + 1) (X.ly + 1) → get a 6 = .slice (some ⟨cb, 0, none⟩) (X.ly + 1) (X.ly + 1) → get a 7 = .int .i64 (i : Int) → get a 8 = .int .i64 (j : Int) →  T34 X w0 w pb cb p c → j + k = X.ly → (∀ t, t ≤ j → c t = (My.L X.f X.g (i + 1) t : Int)) →
    (∀ a' w' c', Fz X a' → get a' 5 = .slice (some ⟨pb, 0, none⟩) (X.ly + 1) (X.ly + 1) → get a' 6 = .slice (some ⟨cb, 0, none⟩) (X.ly + 1) (X.ly + 1) → get a' 7 = .int .i64 (i : Int) →  T34 X w0 w' pb cb p c' → (∀ t, t ≤ X.ly → c' t = (My.L X.f X.g (i + 1) t : Int)) → Q (.exit 2) a' w') →
    Code.rounds Try.prog (sub2 [true, true, true, false, true, false, false, true, false, false, true, false, true, false, false] (bodyOf Try.f34)) Q (k + 1) a w := by
  induction k with
  | zero =>
    intro a w j c hF h5 h6 h7 h8 mem hjk hc hQ
    rw [rounds_succ, cB2]
    refine wp_seq ?_
    refine jH_out (j := j) hF h5 h6 h7 h8 (by omega) ?_
    intro a' hF' k5 k6 k7
    exact hQ a' w c hF' k5 k6 k7 mem (fun t ht => hc t (by omega))
  | succ k ih =>
    intro a w j c hF h5 h6 h7 h8 mem hjk hc hQ
    have zx := mem.rx.len
    have zy := mem.ry.len
    rw [rounds_succ, cB2]
    refine wp_seq ?_
    refine jH_in (j := j) hF h5 h6 h7 h8 (by omega) zy ?_
    clear hF h5 h6 h7 h8 a
    intro a hF h5 h6 h7 h8
    show Code.wp Try.prog (sub2 [true, true, true, false, true, false, false, true, false, false, true, false, true, false, false, true] (bodyOf Try.f34)) _ a w
    rw [cB2r]
    refine wp_seq ?_
    have go : Hid (∀ a' w', Fz X a' → get a' 5 = .slice (some ⟨pb, 0, none⟩) (X.ly + 1) (X.ly + 1) → get a' 6 = .slice (some ⟨cb, 0, none⟩) (X.ly + 1) (X.ly + 1) → get a' 7 = .int .i64 (i : Int) → get a' 8 = .int .i64 (j : Int) →  T34 X w0 w' pb cb p (fun t => if t = j + 1 then (if X.f i = X.g j then p j + 1 else max (p (j + 1)) (c j)) else c t) → Exit.then (Code.wp Try.prog (sub2 [true, true, true, false, true, false, false, true, false, false, true, false, true, false, false, true, true] (bodyOf Try.f34)) (Exit.then (Code.rounds Try.prog (sub2 [true, true, true, false, true, false, false, true, false, false, true, false, true, false, false] (bodyOf Try.f34)) Q (k + 1)) Q)) (Exit.then (Code.rounds Try.prog (sub2 [true, true, true, false, true, false, false, true, false, false, true, false, true, false, false] (bodyOf Try.f34)) Q (k + 1)) Q) .normal a' w') := by
      clear hF h5 h6 h7 h8 a
      intro a w' hF h5 h6 h7 h8 mem'
      show Code.wp Try.prog (sub2 [true, true, true, false, true, false, false, true, false, false, true, false, true, false, false, true, true] (bodyOf Try.f34)) _ a w'
      refine l9 (j := j) hF h5 h6 h7 h8 (by omega) ?_
      clear hF h5 h6 h7 h8 a
      intro a hF h5 h6 h7 h8
      refine ih a w' (j + 1) _ hF h5 h6 h7 (h8.trans (congrArg (Value.int .i64) (by omega))) mem' (by omega) ?_ hQ
      intro t ht
      show (if t = j + 1 then (if X.f i = X.g j then p j + 1 else max (p (j + 1)) (c j)) else c t) = _
      by_cases htj : t = j + 1
      · subst htj
        rw [if_pos rfl, hp j (by omega), hp (j + 1) (by omega), hc j (by omega), My.L_succ]
        split <;> omega
      · rw [if_neg htj]; exact hc t (by omega)
    have hlt : p j + 1 ≤ 1024 := by
      rw [hp j (by omega)]
      have := (My.L_le X.f X.g i j).1
      omega
    by_cases heq : X.f i = X.g j
    · exact l10_eq hF h5 h6 h7 h8 mem hi (by omega) (beq_iff_eq.2 heq) hlt go
    · by_cases hge : c j ≤ p (j + 1)
      · exact l10_p hF h5 h6 h7 h8 mem hi (by omega) (beq_eq_false_iff_ne.2 heq) hge go
      · exact l10_c hF h5 h6 h7 h8 mem hi (by omega) (beq_eq_false_iff_ne.2 heq) (by omega) go

theorem i_rounds34 {X : X34} {w0 : World} {Q : Exit → Act → World → Prop} (k : Nat) : ∀ (a : Act) (w : World) (i pb cb : Nat) (p c : Nat → Int), Fz X a → get a 5 = .slice (some ⟨pb, 0, none⟩) (X.ly + 1) (X.ly + 1) → get a 6 = .slice (some ⟨cb, 0, none⟩) (X.ly + 1) (X.ly + 1) → get a 7 = .int .i64 (i : Int) →  T34 X w0 w pb cb p c → i + k = X.lx → (∀ t, t ≤ X.ly → p t = (My.L X.f X.g i t : Int)) →
    (∀ a' w' pb' cb' p' c', Fz X a' → get a' 5 = .slice (some ⟨pb', 0, none⟩) (X.ly + 1) (X.ly + 1) → T34 X w0 w' pb' cb' p' c' → (∀ t, t ≤ X.ly → p' t = (My.L X.f X.g X.lx t : Int)) → Q (.exit 0) a' w') →
    Code.rounds Try.prog (sub2 [true, true, true, false, true, false, false] (bodyOf Try.f34)) Q (k + 1) a w := by
  induction k with
  | zero =>
    intro a w i pb cb p c hF h5 h6 h7 mem hik hp hQ
    rw [rounds_succ, cB1]
    refine wp_seq ?_
    refine lH_out (i := i) hF h5 h6 h7 (by omega) ?_
    intro a' hF' k5 k6 k7
    obtain rfl : i = X.lx := by omega
    exact hQ a' w pb cb p c hF' k5 mem hp
  | succ k ih =>
    intro a w i pb cb p c hF h5 h6 h7 mem hik hp hQ
    have zx := mem.rx.len
    have zy := mem.ry.len
    rw [rounds_succ, cB1]
    refine wp_seq ?_
    refine lH_in (i := i) hF h5 h6 h7 (by omega) zx ?_
    clear hF h5 h6 h7 a
    intro a hF h5 h6 h7
    show Code.wp Try.prog (sub2 [true, true, true, false, true, false, false, true] (bodyOf Try.f34)) _ a w
    rw [cB1r]
    refine wp_seq ?_
    rw [cB1b]
    refine wp_block ?_
    rw [cIN]
    refine wp_seq ?_
    refine l6 hF h5 h6 h7 mem ?_
    clear hF h5 h6 h7 a
    intro a w1 hF h5 h6 h7 mem1
    show Code.wp Try.prog (sub2 [true, true, true, false, true, false, false, true, false, false, true] (bodyOf Try.f34)) _ a w1
    rw [cINr]
    refine wp_seq ?_
    rw [cINl]
    refine wp_seq ?_
    refine l7 hF h5 h6 h7 ?_
    clear hF h5 h6 h7 a
    intro a hF h5 h6 h7 h8
    show Code.wp Try.prog (sub2 [true, true, true, false, true, false, false, true, false, false, true, false, true] (bodyOf Try.f34)) _ a w1
    rw [cINb]
    refine wp_block ?_
    rw [cINo]
    refine wp_loop_rounds (X.ly + 1) ?_
    refine j_rounds (by omega) hp X.ly a w1 0 _ hF h5 h6 h7 h8 mem1 (by omega) ?_ ?_
    · intro t ht
      obtain rfl : t = 0 := by omega
      show (if (0 : Nat) = 0 then (0 : Int) else c 0) = _
      rw [if_pos rfl, My.L_zero']; rfl
    clear hF h5 h6 h7 h8 a
    intro a w2 c2 hF h5 h6 h7 mem2 hc2
    show Code.wp Try.prog (sub2 [true, true, true, false, true, false, false, true, false, false, true, true] (bodyOf Try.f34)) _ a w2
    refine l15 hF h5 h6 h7 ?_
    clear hF h5 h6 h7 a
    intro a hF h5 h6 h7
    show Code.wp Try.prog (sub2 [true, true, true, false, true, false, false, true, true] (bodyOf Try.f34)) _ a w2
    refine l5 hF h5 h6 h7 (by omega) ?_
    clear hF h5 h6 h7 a
    intro a hF h5 h6 h7
    have mem3 : T34 X w0 w2 cb pb c2 p := ⟨mem2.bel, mem2.B0, mem2.hc, mem2.hp, mem2.c0, mem2.p0, mem2.ne.symm, mem2.rx, mem2.ry, mem2.cr, mem2.pr⟩
    exact ih a w2 (i + 1) cb pb c2 p hF h5 h6 (h7.trans (congrArg (Value.int .i64) (by omega))) mem3 (by omega) hc2 hQ
set_option maxHeartbeats 1000000 in
set_option maxRecDepth 100000 in
theorem l16 {X : X34} {a : Act} {w0 w : World} {p c : Nat → Int} {pb cb : Nat} {Q : Exit → Act → World → Prop} (hF : Fz X a)  (h5 : get a 5 = .slice (some ⟨pb, 0, none⟩) (X.ly + 1) (X.ly + 1)) (mem : T34 X w0 w pb cb p c)
    (hQ : Hid (∀ a', a'.defers = [] → get a' 4 = .int .i64 (p X.ly) → Q .ret a' w)) :
    Code.wp Try.prog (sub2 [true, true, true, true] (bodyOf Try.f34)) Q a w := by
  conv => arg 2; whnf
  obtain ⟨hd, hs, g0, g1⟩ := hF
  have zy := mem.ry.len
  have cc := mem.hp.cell X.ly (by omega)
  clear mem
  rw [lit34 a hd hs]
  generalize get a = g at *
  simp only [g0, g1, h5]
  clear hd hs g0 g1 h5
  go_wp2
  exact hQ.out _ rfl rfl
set_option maxHeartbeats 1000000 in
set_option maxRecDepth 100000 in
theorem l_start {X : X34} {w : World} {a : Act} {r : Code} {Q : Exit → Act → World → Prop} (hF : Fz X a) (rx : Rd w X.ax X.bx X.ox X.lx X.f) (ry : Rd w X.ay X.by_ X.oy X.ly X.g) (hB : X.B0 = w.heap.size)
    (hQ : Hid (∀ a' w' pb cb p c, Fz X a' → get a' 5 = .slice (some ⟨pb, 0, none⟩) (X.ly + 1) (X.ly + 1) → get a' 6 = .slice (some ⟨cb, 0, none⟩) (X.ly + 1) (X.ly + 1) → T34 X w w' pb cb p c → (∀ t, p t = 0) → Code.wp Try.prog r Q a' w')) :
    Code.wp Try.prog (.seq (sub2 [false] (bodyOf Try.f34)) (.seq (sub2 [true, false] (bodyOf Try.f34)) (.seq (sub2 [true, true, false] (bodyOf Try.f34)) r))) Q a w := by
  obtain ⟨hd, hs, g0, g1⟩ := hF
  have zy := ry.len
  obtain ⟨Z, hZ, hm⟩ : ∃ Z : Array Value, Z = madeCells (Value.int .i64 0).cells ((X.ly + 1) * 1) ∧ ∀ w, (Instr.makeSlice 40 (.int .i64 ((X.ly : Int) + 1)) (.int .i64 ((X.ly : Int) + 1))).run Try.prog w = .ok (.slice (some ⟨w.heap.size, 0, none⟩) (X.ly + 1) (X.ly + 1)) (w.alloc (.cells Z 3)) :=
    ⟨_, rfl, fun w => make40 (X.ly + 1) (by omega) w⟩
  have HZ : Hid (Z = cp (fun _ => .int .i64 0) (.int .i64 0) (X.ly + 1) 0) := by rw [cp_zero (fun _ => .int .i64 0) _ _ rfl] at hZ; exact hZ
  have RX : Hid (Rd w X.ax X.bx X.ox X.lx X.f) := rx
  have RY : Hid (Rd w X.ay X.by_ X.oy X.ly X.g) := ry
  have HB : Hid (X.B0 = w.heap.size) := hB
  clear hZ rx ry hB
  have e1 : sub2 [false] (bodyOf Try.f34) = sub2 [false] (bodyOf Try.f34) := rfl
  rw [lit34 a hd hs]
  generalize get a = g at *
  simp only [g0, g1]
  clear hd hs g0 g1 e1
  conv => arg 2; arg 1; whnf
  conv => arg 2; arg 2; arg 1; whnf
  conv => arg 2; arg 2; arg 2; arg 1; whnf
  go_wp2
  obtain ⟨h1, h2, h3, h4⟩ := heap2 w (.cells Z 3) (.cells Z 3)
  have zero : ∀ b, ((w.alloc (.cells Z 3)).alloc (.cells Z 3)).heap[b]? = some (.cells Z 3 (0, 0)) → Ln ((w.alloc (.cells Z 3)).alloc (.cells Z 3)) b (X.ly + 1) (fun _ => 0) := by
    intro b hb
    refine ⟨Z, hb, by rw [HZ.out, cp_size], fun t ht => ?_⟩
    rw [HZ.out, cp_get _ _ _ _ _ ht]; rfl
  refine hQ.out _ _ w.heap.size (w.heap.size + 1) (fun _ => 0) (fun _ => 0) ⟨rfl, rfl, rfl, rfl⟩ rfl rfl ⟨?_, HB.out, zero _ h1, zero _ h2, by rw [HB.out]; exact Nat.le_refl _, by rw [HB.out]; omega, by omega, RX.out, RY.out, fun t => by omega, fun t => by omega⟩ (fun t => rfl)
  rw [HB.out]
  exact ⟨rfl, rfl, rfl, by omega, h3⟩
set_option maxHeartbeats 1000000 in
set_option maxRecDepth 100000 in
theorem l3 {X : X34} {a : Act} {w : World} {pb cb : Nat} {Q : Exit → Act → World → Prop} (hF : Fz X a)  (h5 : get a 5 = .slice (some ⟨pb, 0, none⟩) (X.ly + 1) (X.ly + 1)) (h6 : get a 6 = .slice (some ⟨cb, 0, none⟩) (X.ly + 1) (X.ly + 1)) 
    (hQ : Hid (∀ a', Fz X a' → get a' 5 = .slice (some ⟨pb, 0, none⟩) (X.ly + 1) (X.ly + 1) → get a' 6 = .slice (some ⟨cb, 0, none⟩) (X.ly + 1) (X.ly + 1) → get a' 7 = .int .i64 0 → Q .normal a' w)) :
    Code.wp Try.prog (sub2 [true, true, true, false, false] (bodyOf Try.f34)) Q a w := by
  conv => arg 2; whnf
  obtain ⟨hd, hs, g0, g1⟩ := hF
  rw [lit34 a hd hs]
  generalize get a = g at *
  simp only [g0, g1, h5, h6]
  clear hd hs g0 g1 h5 h6
  go_wp2
  exact hQ.out _ ⟨rfl, rfl, rfl, rfl⟩ rfl rfl rfl

theorem results4 {fn : Func} (h : fn.results = #[.tmp 4]) (tmps : Array Value) (P : Program) (w : World) : (results fn tmps).run P w = .ok (tmps.getD 4 undef) w := by
  simp [results, h]


set_option maxRecDepth 100000 in
theorem lcs_any (X : X34) (w : World) (rx : Rd w X.ax X.bx X.ox X.lx X.f) (ry : Rd w X.ay X.by_ X.oy X.ly X.g) (hB : X.B0 = w.heap.size) :
    Calls Try.prog 34 #[.slice X.ax X.lx X.cx, .slice X.ay X.ly X.cy] w fun e w' => e = .returned (.int .i64 (My.L X.f X.g X.lx X.ly : Int)) ∧ Below w.heap.size w w' := by
  refine calls_of_wp (c := sub2 [] (bodyOf Try.f34)) Try.func34 (by kernel_rfl) ?_
  have key : ∀ a' w' pb cb p c, Fz X a' → get a' 5 = .slice (some ⟨pb, 0, none⟩) (X.ly + 1) (X.ly + 1) → get a' 6 = .slice (some ⟨cb, 0, none⟩) (X.ly + 1) (X.ly + 1) → T34 X w w' pb cb p c → (∀ t, p t = 0) → Code.wp Try.prog (sub2 [true, true, true] (bodyOf Try.f34)) (bodyPost Try.prog Try.f34 fun e w' => e = .returned (.int .i64 (My.L X.f X.g X.lx X.ly : Int)) ∧ Below w.heap.size w w') a' w' := by
    intro a w1 pb cb p c hF h5 h6 mem hp
    rw [c3]
    refine wp_seq ?_
    rw [c3l]
    refine wp_seq ?_
    refine l3 hF h5 h6 ?_
    clear hF h5 h6 a
    intro a hF h5 h6 h7
    show Code.wp Try.prog (sub2 [true, true, true, false, true] (bodyOf Try.f34)) _ a w1
    rw [c3b]
    refine wp_block ?_
    rw [c3o]
    refine wp_loop_rounds (X.lx + 1) ?_
    refine i_rounds34 X.lx a w1 0 pb cb p c hF h5 h6 h7 mem (by omega) (fun t _ => by rw [hp t, My.L_zero]; rfl) ?_
    clear hF h5 h6 h7 a
    intro a w2 pb' cb' p' c' hF h5 mem2 hp2
    show Code.wp Try.prog (sub2 [true, true, true, true] (bodyOf Try.f34)) _ a w2
    refine l16 hF h5 mem2 ?_
    intro a' hd h4
    refine bodyPost_ret (v := .int .i64 (p' X.ly)) ?_ hd ?_
    · rw [results4 rfl]; unfold get at h4; rw [h4]
    · have hb := mem2.bel
      rw [hB] at hb
      exact ⟨by rw [hp2 X.ly (Nat.le_refl _)], hb⟩
  rw [c0, c1, c2]
  exact l_start ⟨rfl, by rw [Try.ntmps34]; exact start_size _ _ (by show 2 ≤ 83; omega), start_get _ _ 0 _ rfl, start_get _ _ 1 _ rfl⟩ rx ry hB (fun a' w' pb cb p c hF h5 h6 mem hp => key a' w' pb cb p c hF h5 h6 mem hp)


set_option maxHeartbeats 400000 in
theorem dist_any (X : X34) (w : World) (rx : Rd w X.ax X.bx X.ox X.lx X.f) (ry : Rd w X.ay X.by_ X.oy X.ly X.g) (hB : X.B0 = w.heap.size) :
    Calls Try.prog 22 #[.slice X.ax X.lx X.cx, .slice X.ay X.ly X.cy] w fun e w' => e = .returned (.int .i64 (My.d X.f X.g X.lx X.ly)) ∧ Below w.heap.size w w' := by
  have zx := rx.len
  have zy := ry.len
  have hL := My.L_le X.f X.g X.lx X.ly
  obtain ⟨hL1, hL2⟩ := hL
  have RX : Hid (Rd w X.ax X.bx X.ox X.lx X.f) := rx
  have RY : Hid (Rd w X.ay X.by_ X.oy X.ly X.g) := ry
  have HB : Hid (X.B0 = w.heap.size) := hB
  clear rx ry hB
  go_enter Try.func22, Try.ntmps22
  go_wp2_with fail
  refine (lcs_any X w RX.out RY.out HB.out).mono ?_
  rintro e w' ⟨rfl, hb⟩
  have BL : Hid (Below w.heap.size w w') := hb
  clear hb
  have ed : My.d X.f X.g X.lx X.ly = (X.lx : Int) + X.ly - 2 * (My.L X.f X.g X.lx X.ly : Int) := My.d_nat _ _ _ _
  have ED : Hid (My.d X.f X.g X.lx X.ly = (X.lx : Int) + X.ly - 2 * (My.L X.f X.g X.lx X.ly : Int)) := ed
  clear ed
  generalize My.L X.f X.g X.lx X.ly = l at *
  go_wp2_with fail
  go_ret
  exact ⟨by rw [ED.out]; rfl, BL.out⟩
end Go.Proofs.Qxb6601687a
