/-
  FnCompactRunsEndLowOrAligned (function 10).
-/
import Derived.Test.Qxb6601687aLawJx
namespace Go.Proofs.Qxb6601687a
open Go.RowKit
set_option linter.unusedVariables false
set_option linter.unusedSimpArgs false

theorem Row.kept {k : IntKind} {w w' : World} {a : Option Addr} {len cap : Nat} {zs : List Int} (h : Row k w a len cap zs) (hb : Below w.heap.size w w') : Row k w' a len cap zs := by
  rcases h with h | ⟨x, h1, h2, h3, h4, h5, h6⟩
  · exact .inl h
  · refine .inr ⟨x, h1, h2, h3, h4, fun i hi => ?_, h6⟩
    rw [hb.cell (cell_lt (h5 i hi))]; exact h5 i hi

/-- THE COPY OF A SLICE OF int32 -/
theorem clone13 (a : Option Addr) (len cap : Nat) (zs : List Int) (w : World) (h : Row .i32 w a len cap zs) (hl : len ≤ 4096) :
    Calls Try.prog 13 #[.slice a len cap] w fun e w' => ∃ aa, e = .returned (.slice aa len len) ∧ (0 < len → aa = some ⟨w.heap.size, 0, none⟩) ∧ Below w.heap.size w w' ∧ (0 < len → w.heap.size < w'.heap.size) ∧
      ∀ i, i < len → w'.cell? ⟨w.heap.size, i, none⟩ = some (.int .i32 (zs.getD i 0)) := by
  rcases h with ⟨rfl, rfl, rfl, rfl⟩ | ⟨x, rfl, h1, h2, h3, h4, h5⟩
  · refine (clone_nil w).mono ?_
    rintro e w' ⟨rfl, rfl⟩
    exact ⟨none, rfl, by omega, Below.refl _ _, by omega, by omega⟩
  · by_cases h0 : len = 0
    · subst h0
      refine (clone_zero x cap w).mono ?_
      rintro e w' ⟨rfl, rfl⟩
      exact ⟨_, rfl, by omega, (Below.refl _ _).alloc (Nat.le_refl _) _, by omega, by omega⟩
    · obtain ⟨b, off, spot⟩ := x
      have hc0 := h4 0 (by omega)
      have hspot : spot = none := by simpa [Addr.add] using World.cell?_spot hc0
      subst hspot
      have hb : b < w.heap.size := by have := cell_lt hc0; simpa [Addr.add] using this
      refine (clone_some b off len cap (fun i => zs.getD i 0) w (by omega) (by omega) hb (fun i hi => ?_)).mono ?_
      · rw [← addr_add]; exact h4 i (by omega)
      · rintro e w' ⟨rfl, rfl⟩
        refine ⟨_, rfl, fun _ => rfl, (Below.refl _ _).alloc (Nat.le_refl _) _, fun _ => by simp, fun i hi => ?_⟩
        rw [World.cell?_alloc_at (hn := rfl), cp_get _ _ _ _ _ hi, if_pos hi]

/-- the memory at hand when compact is called -/
structure Pre (v0 v2 v3 v4 : World) (aa ma oa : Option Addr) (n m : Nat) (l : Nat → Int) (c o : Nat → Bool) : Prop where
  i : I36 v4 aa ma oa v0.heap.size v3.heap.size v2.heap.size n m l c o
  bel : Below v0.heap.size v0 v4
  c0 : v0.heap.size ≤ v3.heap.size

theorem results6' {fn : Func} (h : fn.results = #[.tmp 6]) (tmps : Array Value) (P : Program) (w : World) : (results fn tmps).run P w = .ok (tmps.getD 6 undef) w := by
  simp [results, h]

set_option maxHeartbeats 1000000 in
set_option maxRecDepth 100000 in
theorem y25 {Y : Y10} {a : Act} {w : World} {Q : Exit → Act → World → Prop} (hF : F10 Y a)
    (hQ : Hid (∀ a', a'.defers = [] → get a' 6 = .bool true → Q .ret a' w)) :
    Code.wp Try.prog (sub2 [true, true, true, true, true, true, true, true, true, true, true, true] (bodyOf Try.f10)) Q a w := by
  conv => arg 2; whnf
  obtain ⟨hd, hs, g0, g2, g7, g8⟩ := hF
  rw [lit10 a hd hs]
  generalize get a = g at *
  simp only [g0, g2, g7, g8]
  clear hd hs g0 g2 g7 g8
  go_wp2
  exact hQ.out _ rfl rfl

set_option maxHeartbeats 4000000 in
set_option maxRecDepth 100000 in
theorem law10_main (a0 : Option Addr) (len0 cap0 : Nat) (z0 : List Int) (a1 : Option Addr) (cap1 : Nat) (B1 : Nat → Bool) (a2 : Option Addr) (len2 cap2 : Nat) (B2 : Nat → Bool) (w : World) (w0 : Row .i32 w a0 len0 cap0 z0) (w1 : BRow w a1 len0 cap1 B1) (w2 : BRow w a2 len2 cap2 B2)
    (hb0 : len0 ≤ 4096) (hb2 : len2 ≤ 4096) (hun : Cm.un B1 len0 = Cm.un B2 len2) :
    Calls Try.prog 10 #[.slice a0 len0 cap0, .slice a1 len0 cap1, .slice a2 len2 cap2] w fun e w' => e = .returned (.bool true) ∧ Below w.heap.size w w' := by
  have hl0 := w0.len
  have hl2 := w2.len
  obtain ⟨x1, y1, s1⟩ := w1.bs
  obtain ⟨x2, y2, s2⟩ := w2.bs
  have W0 : Hid (Row .i32 w a0 len0 cap0 z0) := w0
  have W1 : Hid (BRow w a1 len0 cap1 B1) := w1
  have W2 : Hid (BRow w a2 len2 cap2 B2) := w2
  have HU : Hid (Cm.un B1 len0 = Cm.un B2 len2) := hun
  have DOM : Hid (Calls Try.prog 25 #[.slice a0 len0 cap0, .slice a1 len0 cap1, .slice a2 len2 cap2] w fun e w' => e = .returned (.bool true) ∧ w' = w) := by
    have := dom25 a0 a1 a2 len0 cap0 cap1 len2 cap2 x1 y1 x2 y2 B1 B2 w hb0 hb2 s1 s2
    rw [decide_eq_true (show (Cm.un B1 len0 : Int) = (Cm.un B2 len2 : Int) by omega)] at this
    exact this
  clear w0 w1 w2 s1 s2 hun
  go_enter Try.func10, Try.ntmps10
  go_wp2_with fail
  refine (bytes30 _ _ _ _ _ _ _ _ _ _ hl0 hl0 hl2).mono ?_
  rintro e w' ⟨⟨b, rfl, hb⟩, rfl⟩
  obtain rfl := hb hb0 hb0 hb2
  clear hb
  go_wp2_with fail
  refine DOM.out.mono ?_
  rintro e v0 ⟨rfl, rfl⟩
  clear DOM
  go_wp2_with fail
  refine (clone13 a0 len0 cap0 z0 _ W0.out hb0).mono ?_
  rintro e v1 ⟨aa, rfl, q1, q2, q3, q4⟩
  have A1 : Hid (0 < len0 → aa = some ⟨v0.heap.size, 0, none⟩) := q1
  have A2 : Hid (Below v0.heap.size v0 v1) := q2
  have A3 : Hid (0 < len0 → v0.heap.size < v1.heap.size) := q3
  have A4 : Hid (∀ i, i < len0 → v1.cell? ⟨v0.heap.size, i, none⟩ = some (.int .i32 (z0.getD i 0))) := q4
  clear q1 q2 q3 q4
  go_wp2_with fail
  refine (clone19_any a1 len0 cap1 B1 _ (W1.out.below A2.out) hb0).mono ?_
  rintro e v2 ⟨ca, rfl, q1, q2, q3, q4⟩
  have C1 : Hid (Bs v2 ca v1.heap.size 0 len0 B1) := q1
  have C2 : Hid (Below v1.heap.size v1 v2) := q2
  have C5 : Hid (BRow v2 ca len0 len0 B1) := by
    rcases q4 with x | x
    · by_cases y : len0 = 0
      · exact .inl ⟨x, y, y⟩
      · have := q1.at_ (by omega); rw [x] at this; exact absurd this (by simp)
    · exact .inr ⟨_, x, Nat.le_refl _, by unfold maxLen; omega, fun i hi => by rw [addr_add]; exact q1.cells i hi⟩
  clear q1 q2 q3 q4
  go_wp2_with fail
  refine (clone19_any a2 len2 cap2 B2 _ ((W2.out.below A2.out).below C2.out) hb2).mono ?_
  rintro e v3 ⟨oa, rfl, q1, q2, q3, q4⟩
  have D1 : Hid (Bs v3 oa v2.heap.size 0 len2 B2) := q1
  have D2 : Hid (Below v2.heap.size v2 v3) := q2
  clear q1 q2 q3 q4
  go_wp2_with fail
  refine (clone19_any ca len0 len0 B1 _ (C5.out.below D2.out) hb0).mono ?_
  rintro e v4 ⟨ma, rfl, q1, q2, q3, q4⟩
  have PRE : Hid (Pre v0 v2 v3 v4 aa ma oa len0 len2 (fun i => z0.getD i 0) B1 B2) := by
    have e1 := A2.out
    have e2 := C2.out
    have e3 := D2.out
    have b02 : Below v1.heap.size v1 v3 := e2.trans (e3.mono e2.size)
    have b04 : Below v1.heap.size v1 v4 := b02.trans (q2.mono b02.size)
    refine ⟨⟨hb0, hb2, A1.out, q1.at_, fun i hi => ?_, fun h => ?_, fun h => q1.lt h, fun h => ?_, fun h => ⟨_, q3 h, cp_size _ _ _ _, fun i hi => ?_⟩, D1.out.below q2, HU.out⟩, e1.trans (b04.mono e1.size), Nat.le_trans e1.size b02.size⟩
    · rw [b04.cell (p := ⟨v0.heap.size, i, none⟩) (A3.out (by omega))]; exact A4.out i hi
    · exact Nat.lt_of_lt_of_le (A3.out h) b04.size
    · have := A3.out h; have := b02.size; omega
    · rw [cp_get _ _ _ _ _ hi, if_pos hi]
  have OB : Hid (0 < len2 → v2.heap.size ≠ v3.heap.size) := fun h => by have := D1.out.lt h; omega
  clear q1 q2 q3 q4 C1 C2 C5 D1 D2 A1 A2 A3 A4
  go_wp2_with fail
  refine (zz26 aa ma oa v0.heap.size v3.heap.size v2.heap.size len0 len2 (fun i => z0.getD i 0) B1 B2 v4 PRE.out.i).mono ?_
  rintro e v5 ⟨rfl, fc, cc, dv, good⟩
  have pre := PRE.out
  have GOOD : Hid (Cm.Good len0 (fun i => z0.getD i 0) (Cm.sl B2 len2) cc len0) := good
  have BEL : Hid (Below v0.heap.size v0 v5) := by
    refine ⟨fc.os.trans pre.bel.os, fc.tape.trans pre.bel.tape, fc.output.trans pre.bel.output, Nat.le_trans pre.bel.size fc.size, fun k hk => ?_⟩
    rw [fc.block k (Nat.lt_of_lt_of_le hk pre.bel.size) (by have := pre.c0; omega)]
    exact pre.bel.block k hk
  have MEM : Hid (M10 { la := aa, ca := ma, oa := oa, lb := v0.heap.size, cb := v3.heap.size, ob := v2.heap.size, n := len0, m := len2, l := fun i => z0.getD i 0, c := cc, o := B2 } v5) :=
    ⟨hb0, hb2, pre.i.la_, pre.i.ca_, fun i hi => by
        have h0 : 0 < len0 := Nat.lt_of_le_of_lt (Nat.zero_le _) hi
        rw [World.cell?_of_block (w := v4) (a := ⟨v0.heap.size, i, none⟩) (fc.block _ (pre.i.ll h0) (pre.i.lc h0))]; exact pre.i.lines i hi,
      fun i hi => (dv (Nat.lt_of_le_of_lt (Nat.zero_le _) hi)).cell i hi,
      ⟨pre.i.bs.at_, fun h => Nat.lt_of_lt_of_le (pre.i.bs.lt h) fc.size, fun i hi => by
        have h0 : 0 < len2 := Nat.lt_of_le_of_lt (Nat.zero_le _) hi
        rw [World.cell?_of_block (w := v4) (a := ⟨v2.heap.size, 0 + i, none⟩) (fc.block _ (pre.i.bs.lt h0) (OB.out h0))]; exact pre.i.bs.cells i hi⟩⟩
  clear fc dv good pre PRE OB
  go_wp2_with fail
  rename_i K hK
  refine wp_loop_rounds (len0 + 1) ?_
  refine look0 (Y := { la := aa, ca := ma, oa := oa, lb := v0.heap.size, cb := v3.heap.size, ob := v2.heap.size, n := len0, m := len2, l := fun i => z0.getD i 0, c := cc, o := B2 }) GOOD.out len0 _ _ 0 ⟨rfl, rfl, rfl, rfl, rfl, rfl⟩ rfl rfl MEM.out (Nat.zero_le _) (Nat.sub_le _ _) (fun _ _ => .inl rfl) ?_
  intro a q F
  show K a (v5.drewN q)
  apply hK
  clear hK K
  show Code.wp Try.prog (sub2 [true, true, true, true, true, true, true, true, true, true, true, true] (bodyOf Try.f10)) _ a (v5.drewN q)
  refine y25 F ?_
  intro a' hd h6
  refine bodyPost_ret (v := .bool true) ?_ hd ⟨rfl, BEL.out.trans ⟨rfl, rfl, rfl, Nat.le_refl _, fun _ _ => rfl⟩⟩
  rw [results6' rfl]; unfold get at h6; rw [h6]

set_option maxHeartbeats 4000000 in
set_option maxRecDepth 100000 in
theorem law10 (a0 : Option Addr) (len0 cap0 : Nat) (z0 : List Int) (a1 : Option Addr) (len1 cap1 : Nat) (B1 : Nat → Bool) (a2 : Option Addr) (len2 cap2 : Nat) (B2 : Nat → Bool) (w : World) (w0 : Row .i32 w a0 len0 cap0 z0) (w1 : BRow w a1 len1 cap1 B1) (w2 : BRow w a2 len2 cap2 B2) :
    Calls Try.prog 10 #[.slice a0 len0 cap0, .slice a1 len1 cap1, .slice a2 len2 cap2] w fun e w' => e = .returned (.bool true) ∧ Below w.heap.size w w' := by
  have hl0 := w0.len
  have hl1 := w1.len
  have hl2 := w2.len
  by_cases hb0 : len0 ≤ 4096
  case neg =>
    have hb0' : 4096 < len0 := by omega
    clear hb0 w0 w1 w2
    go_enter Try.func10, Try.ntmps10
    go_wp2_with fail
    refine (bytes30 _ _ _ _ _ _ _ _ _ _ hl0 hl1 hl2).mono ?_
    rintro e w' ⟨⟨b, rfl, hb⟩, rfl⟩
    clear hb
    cases b
    all_goals
      go_wp2_with fail
      go_ret
      exact ⟨rfl, Below.refl _ _⟩
  by_cases hb1 : len1 ≤ 4096
  case neg =>
    have hb1' : 4096 < len1 := by omega
    clear hb1 w0 w1 w2
    go_enter Try.func10, Try.ntmps10
    go_wp2_with fail
    refine (bytes30 _ _ _ _ _ _ _ _ _ _ hl0 hl1 hl2).mono ?_
    rintro e w' ⟨⟨b, rfl, hb⟩, rfl⟩
    clear hb
    cases b
    all_goals
      go_wp2_with fail
      go_ret
      exact ⟨rfl, Below.refl _ _⟩
  by_cases hb2 : len2 ≤ 4096
  case neg =>
    have hb2' : 4096 < len2 := by omega
    clear hb2 w0 w1 w2
    go_enter Try.func10, Try.ntmps10
    go_wp2_with fail
    refine (bytes30 _ _ _ _ _ _ _ _ _ _ hl0 hl1 hl2).mono ?_
    rintro e w' ⟨⟨b, rfl, hb⟩, rfl⟩
    clear hb
    cases b
    all_goals
      go_wp2_with fail
      go_ret
      exact ⟨rfl, Below.refl _ _⟩
  by_cases hlen : len1 = len0
  case neg =>
    clear w0 w1 w2
    have DOM : Hid (Calls Try.prog 25 #[.slice a0 len0 cap0, .slice a1 len1 cap1, .slice a2 len2 cap2] w fun e w' => e = .returned (.bool false) ∧ w' = w) := dom25_no a0 a1 a2 len0 cap0 len1 cap1 len2 cap2 w hb0 hb1 hlen
    clear hlen
    go_enter Try.func10, Try.ntmps10
    go_wp2_with fail
    refine (bytes30 _ _ _ _ _ _ _ _ _ _ hl0 hl1 hl2).mono ?_
    rintro e w' ⟨⟨b, rfl, hb⟩, rfl⟩
    obtain rfl := hb hb0 hb1 hb2
    clear hb
    go_wp2_with fail
    refine DOM.out.mono ?_
    rintro e w' ⟨rfl, rfl⟩
    go_wp2_with fail
    go_ret
    exact ⟨rfl, Below.refl _ _⟩
  subst hlen
  by_cases hun : Cm.un B1 len1 = Cm.un B2 len2
  · exact law10_main a0 len1 cap0 z0 a1 cap1 B1 a2 len2 cap2 B2 w w0 w1 w2 hb0 hb2 hun
  · obtain ⟨x1, y1, s1⟩ := w1.bs
    obtain ⟨x2, y2, s2⟩ := w2.bs
    have DOM : Hid (Calls Try.prog 25 #[.slice a0 len1 cap0, .slice a1 len1 cap1, .slice a2 len2 cap2] w fun e w' => e = .returned (.bool false) ∧ w' = w) := by
      have := dom25 a0 a1 a2 len1 cap0 cap1 len2 cap2 x1 y1 x2 y2 B1 B2 w hb0 hb2 s1 s2
      rw [decide_eq_false (show ¬ (Cm.un B1 len1 : Int) = (Cm.un B2 len2 : Int) by omega)] at this
      exact this
    clear w0 w1 w2 s1 s2 hun
    go_enter Try.func10, Try.ntmps10
    go_wp2_with fail
    refine (bytes30 _ _ _ _ _ _ _ _ _ _ hl0 hl1 hl2).mono ?_
    rintro e w' ⟨⟨b, rfl, hb⟩, rfl⟩
    obtain rfl := hb hb0 hb1 hb2
    clear hb
    go_wp2_with fail
    refine DOM.out.mono ?_
    rintro e w' ⟨rfl, rfl⟩
    go_wp2_with fail
    go_ret
    exact ⟨rfl, Below.refl _ _⟩
end Go.Proofs.Qxb6601687a
