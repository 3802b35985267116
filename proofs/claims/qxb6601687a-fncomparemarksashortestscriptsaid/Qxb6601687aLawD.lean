/-
  THE WALK OF FnCompareStepBudgetOnlyStopsIt (function 4).
-/
import Derived.Test.Qxb6601687aZzcp
namespace Go.Proofs.Qxb6601687a
open Go.RowKit
set_option linter.unusedVariables false
set_option linter.unusedSimpArgs false

theorem Row.below {k : IntKind} {w w' : World} {a : Option Addr} {len cap : Nat} {zs : List Int} (h : Row k w a len cap zs) (hb : Below w.heap.size w w') : Row k w' a len cap zs := by
  rcases h with h | ⟨x, h1, h2, h3, h4, h5, h6⟩
  · exact .inl h
  · refine .inr ⟨x, h1, h2, h3, h4, fun i hi => ?_, h6⟩
    rw [hb.cell (cell_lt (h5 i hi))]; exact h5 i hi

/-- a row of numbers that is only read -/
structure In (v : World) (ab la : Nat) (A : Nat → Int) : Prop where
  cells : ∀ i, i < la → v.cell? ⟨ab, i, none⟩ = some (.int .i32 (A i))
  lt : 0 < la → ab < v.heap.size

theorem In.of_below {v v' : World} {ab la : Nat} {A : Nat → Int} (h : In v ab la A) (hb : Below v.heap.size v v') : In v' ab la A :=
  ⟨fun i hi => by rw [hb.cell (p := ⟨ab, i, none⟩) (h.lt (by omega))]; exact h.cells i hi, fun h0 => Nat.lt_of_lt_of_le (h.lt h0) hb.size⟩
theorem In.of_fo {v v' : World} {ab la db ib : Nat} {A : Nat → Int} (h : In v ab la A) (hb : Fo db ib v v') (h1 : 0 < la → ab ≠ db) (h2 : 0 < la → ab ≠ ib) : In v' ab la A :=
  ⟨fun i hi => by rw [World.cell?_of_block (w := v) (hb.block ab (h.lt (by omega)) (h1 (by omega)) (h2 (by omega)))]; exact h.cells i hi, fun h0 => Nat.lt_of_lt_of_le (h.lt h0) hb.size⟩

/-- ZZCompare with fresh marks, an empty slice's block left out -/
theorem zc_law (aa ba : Option Addr) (ab bb db ib la ca lb cb : Nat) (A B : Nat → Int) (dl il : Nat → Bool) (i0 i1 j0 j1 : Nat) (s : Int) (w : World) (hi : i0 ≤ i1) (hj : j0 ≤ j1) (hla1 : i1 ≤ la) (hlb1 : j1 ≤ lb) (hla : la ≤ 1024) (hlb : lb ≤ 1024)
    (hs0 : -2147483648 ≤ s) (hs1 : s ≤ 9223372036854775807)
    (haa : 0 < la → aa = some ⟨ab, 0, none⟩) (hba : 0 < lb → ba = some ⟨bb, 0, none⟩)
    (e5 : 0 < la → ab ≠ db) (e6 : 0 < lb → bb ≠ db) (e7 : 0 < la → ab ≠ ib) (e8 : 0 < lb → bb ≠ ib) (e9 : db ≠ ib)
    (cA : In w ab la A) (cB : In w bb lb B) (hd : Dv w db la dl) (hv : Dv w ib lb il) :
    Calls Try.prog 14 #[.slice aa la ca, .slice ba lb cb, .slice (some ⟨db, 0, none⟩) la la, .slice (some ⟨ib, 0, none⟩) lb lb, .int .i64 s, .int .i64 i0, .int .i64 i1, .int .i64 j0, .int .i64 j1] w fun e w' =>
      e = .returned (.tuple #[.bool (My.cmp A B ((i1 - i0) + (j1 - j0) + 1) i0 i1 j0 j1 (dl, il, s)).1, .int .i64 (My.cmp A B ((i1 - i0) + (j1 - j0) + 1) i0 i1 j0 j1 (dl, il, s)).2.2.2]) ∧
      Dv w' db la (My.cmp A B ((i1 - i0) + (j1 - j0) + 1) i0 i1 j0 j1 (dl, il, s)).2.1 ∧ Dv w' ib lb (My.cmp A B ((i1 - i0) + (j1 - j0) + 1) i0 i1 j0 j1 (dl, il, s)).2.2.1 ∧ Fo db ib w w' := by
  have l1 := hd.lt
  have l2 := hv.lt
  by_cases h1 : la = 0
  · by_cases h2 : lb = 0
    · exact zc_any aa ba (w.heap.size + 3) (w.heap.size + 3) db ib la ca lb cb A B dl il i0 i1 j0 j1 s w hi hj hla1 hlb1 hla hlb hs0 hs1 (by omega) (by omega) (.inr (by omega)) (.inr (by omega)) (by omega) (by omega) (by omega) (by omega) e9 (by omega) (by omega) hd hv
    · exact zc_any aa ba (w.heap.size + 3) bb db ib la ca lb cb A B dl il i0 i1 j0 j1 s w hi hj hla1 hlb1 hla hlb hs0 hs1 (by omega) hba (.inr (by omega)) (.inl (cB.lt (by omega))) (by omega) (e6 (by omega)) (by omega) (e8 (by omega)) e9 (by omega) cB.cells hd hv
  · by_cases h2 : lb = 0
    · exact zc_any aa ba ab (w.heap.size + 3) db ib la ca lb cb A B dl il i0 i1 j0 j1 s w hi hj hla1 hlb1 hla hlb hs0 hs1 haa (by omega) (.inl (cA.lt (by omega))) (.inr (by omega)) (e5 (by omega)) (by omega) (e7 (by omega)) (by omega) e9 cA.cells (by omega) hd hv
    · exact zc_any aa ba ab bb db ib la ca lb cb A B dl il i0 i1 j0 j1 s w hi hj hla1 hlb1 hla hlb hs0 hs1 haa hba (.inl (cA.lt (by omega))) (.inl (cB.lt (by omega))) (e5 (by omega)) (e6 (by omega)) (e7 (by omega)) (e8 (by omega)) e9 cA.cells cB.cells hd hv

theorem clone_in (a : Option Addr) (len cap : Nat) (zs : List Int) (w : World) (h : Row .i32 w a len cap zs) (hl : len ≤ 1024) :
    Calls Try.prog 13 #[.slice a len cap] w fun e w' => ∃ aa ca, e = .returned (.slice aa len ca) ∧ (0 < len → aa = some ⟨w.heap.size, 0, none⟩) ∧ Below w.heap.size w w' ∧ In w' w.heap.size len (fun i => zs.getD i 0) := by
  refine (clone_any a len cap zs w h hl).mono ?_
  rintro e w' ⟨aa, ca, rfl, h1, h2, h3, h4⟩
  exact ⟨aa, ca, rfl, h1, h2, h4, h3⟩

/-- two fresh rows of marks -/
theorem marks_made (v : World) (la lb : Nat) (ZA ZB : Array Value) (hA : ZA = cp (fun _ => .bool false) (.bool false) la 0) (hB : ZB = cp (fun _ => .bool false) (.bool false) lb 0) :
    Dv ((v.alloc (.cells ZA 4)).alloc (.cells ZB 4)) v.heap.size la (fun _ => false) ∧ Dv ((v.alloc (.cells ZA 4)).alloc (.cells ZB 4)) (v.heap.size + 1) lb (fun _ => false) ∧ Below v.heap.size v ((v.alloc (.cells ZA 4)).alloc (.cells ZB 4)) ∧ ((v.alloc (.cells ZA 4)).alloc (.cells ZB 4)).heap.size = v.heap.size + 2 := by
  obtain ⟨h1, h2, h3, h4⟩ := heap2 v (.cells ZA 4) (.cells ZB 4)
  refine ⟨⟨ZA, h1, by rw [hA, cp_size], fun i hi => ?_⟩, ⟨ZB, h2, by rw [hB, cp_size], fun i hi => ?_⟩, ⟨rfl, rfl, rfl, by omega, h3⟩, h4⟩
  · rw [hA, cp_get _ _ _ _ _ hi]; rfl
  · rw [hB, cp_get _ _ _ _ _ hi]; rfl

theorem make_marks (n : Nat) (h : n ≤ 1024) : ∃ Z : Array Value, Z = cp (fun _ => .bool false) (.bool false) n 0 ∧ ∀ w, (Instr.makeSlice 25 (.int .i64 (n : Int)) (.int .i64 (n : Int))).run Try.prog w = .ok (.slice (some ⟨w.heap.size, 0, none⟩) n n) (w.alloc (.cells Z 4)) :=
  ⟨_, rfl, fun w => by rw [make25 n (by omega) w, cp_zero (fun _ => .bool false) _ _ rfl]⟩

set_option maxHeartbeats 4000000 in
set_option maxRecDepth 100000 in
theorem law4_main (a0 : Option Addr) (len0 cap0 : Nat) (z0 : List Int) (a1 : Option Addr) (len1 cap1 : Nat) (z1 : List Int) (i0 i1 j0 j1 : Nat) (a6 a7 : Int) (w : World) (w0 : Row .i32 w a0 len0 cap0 z0) (w1 : Row .i32 w a1 len1 cap1 z1)
    (hb0 : len0 ≤ 1024) (hb1 : len1 ≤ 1024) (hi : i0 ≤ i1) (hi1 : i1 ≤ len0) (hj : j0 ≤ j1) (hj1 : j1 ≤ len1) (hs1 : -536870912 ≤ a6) (hs2 : a6 ≤ 536870912) (hx1 : 0 ≤ a7) (hx2 : a7 ≤ 536870912) :
    Calls Try.prog 4 #[.slice a0 len0 cap0, .slice a1 len1 cap1, .int .i64 i0, .int .i64 i1, .int .i64 j0, .int .i64 j1, .int .i64 a6, .int .i64 a7] w fun e w' => e = .returned (.bool true) ∧ Below w.heap.size w w' := by
  have hl0 := w0.len
  have hl1 := w1.len
  have W0 : Hid (Row .i32 w a0 len0 cap0 z0) := w0
  have W1 : Hid (Row .i32 w a1 len1 cap1 z1) := w1
  clear w0 w1
  have HF : Hid ((0 : Int) ≤ i0 ∧ (i0 : Int) ≤ i1 ∧ (i1 : Int) ≤ len0 ∧ (0 : Int) ≤ j0 ∧ (j0 : Int) ≤ j1 ∧ (j1 : Int) ≤ len1) := by show _ ∧ _; omega
  obtain ⟨ZA, hZA, mkA⟩ := make_marks len0 hb0
  obtain ⟨ZB, hZB, mkB⟩ := make_marks len1 hb1
  have HZA : Hid (ZA = cp (fun _ => .bool false) (.bool false) len0 0) := hZA
  have HZB : Hid (ZB = cp (fun _ => .bool false) (.bool false) len1 0) := hZB
  clear hZA hZB
  go_enter Try.func4, Try.ntmps4
  go_wp2_with fail
  refine (bytes16 _ _ _ _ _ _ _ _ _ _ _ _ _ hl0 hl1).mono ?_
  rintro e w' ⟨⟨b, rfl, hb⟩, rfl⟩
  obtain rfl := hb hb0 hb1
  clear hb
  go_wp2_with fail
  refine (fit12 _ _ _ _ _ _ _ _ _ _ _ HF.out).mono ?_
  rintro e v0 ⟨rfl, rfl⟩
  go_wp2_with fail
  refine (clone_in a0 len0 cap0 z0 _ W0.out hb0).mono ?_
  rintro e v1 ⟨aa, ca, rfl, q1, q2, q3⟩
  have Q1 : Hid (0 < len0 → aa = some ⟨v0.heap.size, 0, none⟩) := q1
  have Q2 : Hid (Below v0.heap.size v0 v1) := q2
  have Q3 : Hid (In v1 v0.heap.size len0 (fun i => z0.getD i 0)) := q3
  clear q1 q2 q3
  go_wp2_with fail
  refine (clone_in a1 len1 cap1 z1 _ (W1.out.below Q2.out) hb1).mono ?_
  rintro e v2 ⟨ba, cb, rfl, q1, q2, q3⟩
  have R1 : Hid (0 < len1 → ba = some ⟨v1.heap.size, 0, none⟩) := q1
  have R3 : Hid (In v2 v1.heap.size len1 (fun i => z1.getD i 0)) := q3
  have R4 : Hid (In v2 v0.heap.size len0 (fun i => z0.getD i 0)) := Q3.out.of_below q2
  have R5 : Hid (Below v0.heap.size v0 v2) := Q2.out.trans (q2.mono Q2.out.size)
  clear q1 q2 q3 Q2 Q3
  go_wp2_with fail
  have mm := marks_made v2 len0 len1 ZA ZB HZA.out HZB.out
  have S1 : Hid (Dv ((v2.alloc (.cells ZA 4)).alloc (.cells ZB 4)) v2.heap.size len0 (fun _ => false)) := mm.1
  have S2 : Hid (Dv ((v2.alloc (.cells ZA 4)).alloc (.cells ZB 4)) (v2.heap.size + 1) len1 (fun _ => false)) := mm.2.1
  have S3 : Hid (Below v2.heap.size v2 ((v2.alloc (.cells ZA 4)).alloc (.cells ZB 4))) := mm.2.2.1
  have S4 : Hid (((v2.alloc (.cells ZA 4)).alloc (.cells ZB 4)).heap.size = v2.heap.size + 2) := mm.2.2.2
  clear mm
  refine (zc_law aa ba v0.heap.size v1.heap.size v2.heap.size (v2.heap.size + 1) len0 ca len1 cb (fun i => z0.getD i 0) (fun i => z1.getD i 0) (fun _ => false) (fun _ => false) i0 i1 j0 j1 a6 _ hi hj hi1 hj1 hb0 hb1 (by omega) (by omega) Q1.out R1.out
    (fun h => by have := R4.out.lt h; omega) (fun h => by have := R3.out.lt h; omega) (fun h => by have := R4.out.lt h; omega) (fun h => by have := R3.out.lt h; omega) (by omega) (R4.out.of_below S3.out) (R3.out.of_below S3.out) S1.out S2.out).mono ?_
  rintro e v3 ⟨rfl, d1, d2, fo⟩
  have law1 := My.cmp_false (fun i => z0.getD i 0) (fun i => z1.getD i 0) (i1 - i0 + (j1 - j0) + 1) i0 i1 j0 j1 (fun _ => false, fun _ => false, a6) hi hj (by omega)
  have law2 := My.cmp_more (fun i => z0.getD i 0) (fun i => z1.getD i 0) a7 hx1 (i1 - i0 + (j1 - j0) + 1) i0 i1 j0 j1 (fun _ => false) (fun _ => false) a6
  have law3 := My.cmp_fell (fun i => z0.getD i 0) (fun i => z1.getD i 0) (i1 - i0 + (j1 - j0) + 1) i0 i1 j0 j1 (fun _ => false, fun _ => false, a6) hi hj (by omega) (by omega)
  have U1 : Hid (In v3 v0.heap.size len0 (fun i => z0.getD i 0)) := (R4.out.of_below S3.out).of_fo fo (fun h => by have := R4.out.lt h; omega) (fun h => by have := R4.out.lt h; omega)
  have U2 : Hid (In v3 v1.heap.size len1 (fun i => z1.getD i 0)) := (R3.out.of_below S3.out).of_fo fo (fun h => by have := R3.out.lt h; omega) (fun h => by have := R3.out.lt h; omega)
  have U3 : Hid (Below v0.heap.size v0 v3) := by
    have h1 := R5.out
    have h2 := S3.out
    have h3 := S4.out
    refine ⟨fo.os.trans (h2.os.trans h1.os), fo.tape.trans (h2.tape.trans h1.tape), fo.output.trans (h2.output.trans h1.output), Nat.le_trans h1.size (Nat.le_trans h2.size fo.size), fun k hk => ?_⟩
    have := h1.size
    rw [fo.block k (by omega) (by omega) (by omega), h2.block k (by omega), h1.block k hk]
  have U4 : Hid (v2.heap.size + 2 ≤ v3.heap.size) := by have := fo.size; rw [S4.out] at this; exact this
  generalize My.cmp (fun i => z0.getD i 0) (fun i => z1.getD i 0) (i1 - i0 + (j1 - j0) + 1) i0 i1 j0 j1 (fun _ => false, fun _ => false, a6) = r at *
  obtain ⟨ok, dl1, il1, s1⟩ := r
  simp only [] at law1 law2 law3 d1 d2
  obtain ⟨f1, f2, f3⟩ := law3
  have f1' : s1 ≤ 536870912 := by omega
  have f2' : -2147483648 ≤ s1 := by omega
  have L1 : Hid (ok = false → s1 < 0) := law1
  have L2 : Hid (ok = true → My.cmp (fun i => z0.getD i 0) (fun i => z1.getD i 0) (i1 - i0 + (j1 - j0) + 1) i0 i1 j0 j1 (fun _ => false, fun _ => false, a6 + a7) = (true, dl1, il1, s1 + a7)) := law2
  have D1 : Hid (Dv v3 v2.heap.size len0 dl1) := d1
  have D2 : Hid (Dv v3 (v2.heap.size + 1) len1 il1) := d2
  clear law1 law2 f1 f2 f3 d1 d2 fo R3 R4 R5 S1 S2 S3 S4
  go_wp2_with fail
  have mm := marks_made v3 len0 len1 ZA ZB HZA.out HZB.out
  have S1 : Hid (Dv ((v3.alloc (.cells ZA 4)).alloc (.cells ZB 4)) v3.heap.size len0 (fun _ => false)) := mm.1
  have S2 : Hid (Dv ((v3.alloc (.cells ZA 4)).alloc (.cells ZB 4)) (v3.heap.size + 1) len1 (fun _ => false)) := mm.2.1
  have S3 : Hid (Below v3.heap.size v3 ((v3.alloc (.cells ZA 4)).alloc (.cells ZB 4))) := mm.2.2.1
  have S4 : Hid (((v3.alloc (.cells ZA 4)).alloc (.cells ZB 4)).heap.size = v3.heap.size + 2) := mm.2.2.2
  clear mm
  refine (zc_law aa ba v0.heap.size v1.heap.size v3.heap.size (v3.heap.size + 1) len0 ca len1 cb (fun i => z0.getD i 0) (fun i => z1.getD i 0) (fun _ => false) (fun _ => false) i0 i1 j0 j1 (a6 + a7) _ hi hj hi1 hj1 hb0 hb1 (by omega) (by omega) Q1.out R1.out
    (fun h => by have := U1.out.lt h; omega) (fun h => by have := U2.out.lt h; omega) (fun h => by have := U1.out.lt h; omega) (fun h => by have := U2.out.lt h; omega) (by omega) (U1.out.of_below S3.out) (U2.out.of_below S3.out) S1.out S2.out).mono ?_
  rintro e v4 ⟨rfl, d3, d4, fo⟩
  have T1 : Hid (Dv v4 v2.heap.size len0 dl1) := by
    have h1 := D1.out.lt
    have h2 := S4.out
    have h3 := U4.out
    exact (D1.out.of_block (S3.out.block _ h1)).of_block (fo.block _ (by omega) (by omega) (by omega))
  have T2 : Hid (Dv v4 (v2.heap.size + 1) len1 il1) := by
    have h1 := D2.out.lt
    have h2 := S4.out
    have h3 := U4.out
    exact (D2.out.of_block (S3.out.block _ h1)).of_block (fo.block _ (by omega) (by omega) (by omega))
  have T3 : Hid (Below v0.heap.size v0 v4) := by
    have h1 := U3.out
    have h2 := S3.out
    have h3 := S4.out
    refine ⟨fo.os.trans (h2.os.trans h1.os), fo.tape.trans (h2.tape.trans h1.tape), fo.output.trans (h2.output.trans h1.output), Nat.le_trans h1.size (Nat.le_trans h2.size fo.size), fun k hk => ?_⟩
    have := h1.size
    rw [fo.block k (by omega) (by omega) (by omega), h2.block k (by omega), h1.block k hk]
  cases ok with
  | false =>
    have hneg : s1 < 0 := L1.out rfl
    generalize My.cmp (fun i => z0.getD i 0) (fun i => z1.getD i 0) (i1 - i0 + (j1 - j0) + 1) i0 i1 j0 j1 (fun _ => false, fun _ => false, a6 + a7) = r2
    obtain ⟨ok2, dl2, il2, s2⟩ := r2
    clear d3 d4 fo
    go_wp2_with fail
    go_ret
    exact ⟨rfl, T3.out⟩
  | true =>
    rw [L2.out rfl] at d3 d4 ⊢
    have D3 : Hid (Dv v4 v3.heap.size len0 dl1) := d3
    have D4 : Hid (Dv v4 (v3.heap.size + 1) len1 il1) := d4
    clear d3 d4 fo
    go_wp2_with fail
    refine (same_any v2.heap.size v3.heap.size len0 dl1 v4 hb0 (fun i h => T1.out.cell i h) (fun i h => D3.out.cell i h)).mono ?_
    rintro e v5 ⟨rfl, q5, rfl⟩
    go_wp2_with fail
    refine (same_any (v2.heap.size + 1) (v3.heap.size + 1) len1 il1 (v4.drewN q5) hb1 (fun i h => T2.out.cell i h) (fun i h => D4.out.cell i h)).mono ?_
    rintro e v6 ⟨rfl, q6, rfl⟩
    go_wp2_with fail
    go_ret
    exact ⟨rfl, T3.out.os, T3.out.tape, T3.out.output, T3.out.size, T3.out.block⟩
set_option maxHeartbeats 2000000 in
set_option maxRecDepth 100000 in
theorem law4 (a0 : Option Addr) (len0 cap0 : Nat) (z0 : List Int) (a1 : Option Addr) (len1 cap1 : Nat) (z1 : List Int) (a2 a3 a4 a5 a6 a7 : Int) (w : World) (w0 : Row .i32 w a0 len0 cap0 z0) (w1 : Row .i32 w a1 len1 cap1 z1) :
    Calls Try.prog 4 #[.slice a0 len0 cap0, .slice a1 len1 cap1, .int .i64 a2, .int .i64 a3, .int .i64 a4, .int .i64 a5, .int .i64 a6, .int .i64 a7] w fun e w' => e = .returned (.bool true) ∧ Below w.heap.size w w' := by
  have hl0 := w0.len
  have hl1 := w1.len
  by_cases hb0 : len0 ≤ 1024
  case neg =>
    have hb0' : 1024 < len0 := by omega
    clear hb0 w0 w1
    go_enter Try.func4, Try.ntmps4
    go_wp2_with fail
    refine (bytes16 _ _ _ _ _ _ _ _ _ _ _ _ _ hl0 hl1).mono ?_
    rintro e w' ⟨⟨b, rfl, hb⟩, rfl⟩
    clear hb
    cases b
    all_goals
      go_wp2_with fail
      go_ret
      exact ⟨rfl, Below.refl _ _⟩
  by_cases hb1 : len1 ≤ 1024
  case neg =>
    have hb1' : 1024 < len1 := by omega
    clear hb1 w0 w1
    go_enter Try.func4, Try.ntmps4
    go_wp2_with fail
    refine (bytes16 _ _ _ _ _ _ _ _ _ _ _ _ _ hl0 hl1).mono ?_
    rintro e w' ⟨⟨b, rfl, hb⟩, rfl⟩
    clear hb
    cases b
    all_goals
      go_wp2_with fail
      go_ret
      exact ⟨rfl, Below.refl _ _⟩
  by_cases hfit : 0 ≤ a2 ∧ a2 ≤ a3 ∧ a3 ≤ len0 ∧ 0 ≤ a4 ∧ a4 ≤ a5 ∧ a5 ≤ len1
  case neg =>
    have HF : Hid (¬ (0 ≤ a2 ∧ a2 ≤ a3 ∧ a3 ≤ len0 ∧ 0 ≤ a4 ∧ a4 ≤ a5 ∧ a5 ≤ len1)) := hfit
    clear hfit w0 w1
    go_enter Try.func4, Try.ntmps4
    go_wp2_with fail
    refine (bytes16 _ _ _ _ _ _ _ _ _ _ _ _ _ hl0 hl1).mono ?_
    rintro e w' ⟨⟨b, rfl, hb⟩, rfl⟩
    obtain rfl := hb hb0 hb1
    clear hb
    go_wp2_with fail
    refine (fit12_no _ _ _ _ _ _ _ _ _ _ _ HF.out).mono ?_
    rintro e w' ⟨rfl, rfl⟩
    go_wp2_with fail
    go_ret
    exact ⟨rfl, Below.refl _ _⟩
  by_cases hst : -536870912 ≤ a6 ∧ a6 ≤ 536870912
  case neg =>
    have hst' : a6 < -536870912 ∨ (-536870912 ≤ a6 ∧ 536870912 < a6) := by omega
    have HF : Hid (0 ≤ a2 ∧ a2 ≤ a3 ∧ a3 ≤ len0 ∧ 0 ≤ a4 ∧ a4 ≤ a5 ∧ a5 ≤ len1) := hfit
    clear hfit w0 w1 hst
    rcases hst' with hst | ⟨hst, hst2⟩
    all_goals
      go_enter Try.func4, Try.ntmps4
      go_wp2_with fail
      refine (bytes16 _ _ _ _ _ _ _ _ _ _ _ _ _ hl0 hl1).mono ?_
      rintro e w' ⟨⟨b, rfl, hb⟩, rfl⟩
      obtain rfl := hb hb0 hb1
      clear hb
      go_wp2_with fail
      refine (fit12 _ _ _ _ _ _ _ _ _ _ _ HF.out).mono ?_
      rintro e w' ⟨rfl, rfl⟩
      go_wp2_with fail
      go_ret
      exact ⟨rfl, Below.refl _ _⟩
  by_cases hex : 0 ≤ a7 ∧ a7 ≤ 536870912
  case neg =>
    have hex' : a7 < 0 ∨ (0 ≤ a7 ∧ 536870912 < a7) := by omega
    have HF : Hid (0 ≤ a2 ∧ a2 ≤ a3 ∧ a3 ≤ len0 ∧ 0 ≤ a4 ∧ a4 ≤ a5 ∧ a5 ≤ len1) := hfit
    obtain ⟨hs1, hs2⟩ := hst
    clear hfit w0 w1 hex
    rcases hex' with hex | ⟨hex, hex2⟩
    all_goals
      go_enter Try.func4, Try.ntmps4
      go_wp2_with fail
      refine (bytes16 _ _ _ _ _ _ _ _ _ _ _ _ _ hl0 hl1).mono ?_
      rintro e w' ⟨⟨b, rfl, hb⟩, rfl⟩
      obtain rfl := hb hb0 hb1
      clear hb
      go_wp2_with fail
      refine (fit12 _ _ _ _ _ _ _ _ _ _ _ HF.out).mono ?_
      rintro e w' ⟨rfl, rfl⟩
      go_wp2_with fail
      go_ret
      exact ⟨rfl, Below.refl _ _⟩
  obtain ⟨p1, p2, p3, p4, p5, p6⟩ := hfit
  obtain ⟨i0, rfl⟩ := Int.eq_ofNat_of_zero_le p1
  obtain ⟨i1, rfl⟩ := Int.eq_ofNat_of_zero_le (show 0 ≤ a3 by omega)
  obtain ⟨j0, rfl⟩ := Int.eq_ofNat_of_zero_le p4
  obtain ⟨j1, rfl⟩ := Int.eq_ofNat_of_zero_le (show 0 ≤ a5 by omega)
  exact law4_main a0 len0 cap0 z0 a1 len1 cap1 z1 i0 i1 j0 j1 a6 a7 w w0 w1 hb0 hb1 (by omega) (by omega) (by omega) (by omega) hst.1 hst.2 hex.1 hex.2
#print axioms law4
end Go.Proofs.Qxb6601687a
