/-
  SEAT b6002353a: the law.
-/
import Derived.Test.Qxb6002353aNet
import Derived.Test.Qxb6002353aAgrees
namespace Go.Proofs.Qxb6002353a
open Go.RowKit
set_option linter.unusedVariables false
set_option linter.unusedSimpArgs false

/-- the ghost at the start -/
def g0 (w : World) : Gh := { k := 0, t := 0, bn := fun _ => 1, w0 := w, lay := fun _ => ⟨0, 0, 0, 0, 0, 0, 0⟩, rd := fun _ => 0, rs := fun _ => [], qs := fun _ _ => False, kd := fun b => match w.heap[b]? with | some o => kEx o | none => kFree }
theorem g0_kd (w : World) (b : Nat) : ((g0 w).kd b).t = 0 ∨ ((g0 w).kd b).t = 14 ∨ ((g0 w).kd b).t = 15 := by
  unfold g0
  cases h : w.heap[b]? with
  | none => left; simp only [h]
  | some o => right; left; simp only [h]
theorem g0_typed (w : World) : Typed w (g0 w) := by
  have no : ∀ (b t : Nat), ((g0 w).kd b).t = t → t ≠ 0 → t ≠ 14 → t ≠ 15 → False := fun b t h h0 h1 h2 => by
    rcases g0_kd w b with e | e | e <;> exact absurd (h.symm.trans e) (by assumption)
  refine ⟨⟨rfl, rfl, rfl, ?_, ?_, ?_, by show 0 ≤ 5; omega, by show 0 ≤ 100000; omega, ?_, ?_, ?_, ?_, ?_, ?_, ?_, ?_, ?_, ?_, ?_, ?_, ?_, ?_, ?_, ?_⟩, ?_⟩
  · intro b o ho _
    unfold g0 KOk
    simp only [ho]
  · intro b hb
    have : w.heap[b]? = none := by simp; omega
    unfold g0
    simp only [this]
  · intro b o ho
    have ho : w.heap[b]? = some o := ho
    unfold g0
    simp only [ho]
  · intro x hx; exact absurd hx (by show ¬ x < 0; omega)
  · intro x hx; exact absurd hx (by show ¬ x < 0; omega)
  · intro x hx; exact absurd hx (by show ¬ x < 0; omega)
  · intro x hx; exact absurd hx (by show ¬ x < 0; omega)
  · intro x hx; exact absurd hx (by show ¬ x < 0; omega)
  · intro x hx; exact absurd hx (by show ¬ x < 0; omega)
  · intro x hx; exact absurd hx (by show ¬ x < 0; omega)
  · intro x hx; exact absurd hx (by show ¬ x < 0; omega)
  · intro x b h; exact (no b 3 h (by omega) (by omega) (by omega)).elim
  · intro x b h; exact (no b 1 h (by omega) (by omega) (by omega)).elim
  · intro x b h; exact (no b 5 h (by omega) (by omega) (by omega)).elim
  · intro x b h; exact (no b 2 h (by omega) (by omega) (by omega)).elim
  · intro x b h; exact (no b 4 h (by omega) (by omega) (by omega)).elim
  · intro x hx; exact absurd hx (by show ¬ x < 0; omega)
  · intro x hx; exact absurd hx (by show ¬ x < 0; omega)
  · intro x hx; exact absurd hx (by show ¬ x < 0; omega)
  · intro x hx; exact absurd hx (by show ¬ x < 0; omega)
theorem g0_pl (w : World) : Pl (g0 w) := ⟨rfl, rfl, rfl, rfl, rfl, rfl, g0_kd w⟩

/-- the recorder's fresh list is struck -/
theorem TypedE.r2 {E w G x} (T : TypedE E w G) (hx : x < G.k) : TypedE E (w.setCell ⟨(G.lay x).rb, 2, none⟩ (.slice none 0 0)) G := by
  refine T.set fun _ c e f h => ?_
  rw [T.rb x hx] at h ⊢
  obtain ⟨u, v, h1, h2, h3⟩ := h
  cases h1
  exact ⟨u, .slice none 0 0, rfl, h2, .inl rfl⟩
theorem info36 : (Try.prog.info? 36).map (fun i => (i.zero, i.size, i.bytes)) = some (some (.pointer none), 1, 8) := by kernel_rfl
theorem ByteRow.keep {G G' : Gh} {a : Option Addr} {n : Nat} (h : ByteRow G a n) (hk : ∀ b o, G.kd b = kEx o → G'.kd b = kEx o) : ByteRow G' a n := fun hn => by
  obtain ⟨b, arr, h1, h2, h3⟩ := h hn
  exact ⟨b, arr, h1, hk b _ h2, h3⟩
theorem ByteRow.le {c : Nat} {G G' : Gh} {a : Option Addr} {n : Nat} (h : ByteRow G a n) (L : Le c G G') : ByteRow G' a n := h.keep fun b o hb => L.up hb (by simp) (by simp) (by simp)
theorem ByteRow.cell {E w G a n j} (h : ByteRow G a n) (T : TypedE E w G) (hE : ∀ b, (G.kd b).t = 14 → ¬ E b) (hj : j < n) : ∃ rb z, a = some ⟨rb, 0, none⟩ ∧ w.cell? ⟨rb, j, none⟩ = some (.int .u8 z) ∧ 0 ≤ z ∧ z < 256 := by
  obtain ⟨b, arr, h1, h2, h3⟩ := h (by omega)
  obtain ⟨z, h4, h5⟩ := h3 j hj
  exact ⟨b, z, h1, (cell_of (T.exact h2 (hE b (by rw [h2]))) j).trans h4, h5⟩

set_option maxHeartbeats 8000000 in
set_option maxRecDepth 100000 in
theorem c3 {a0 a3 a4 : Int} {a1 a2 : Option Addr} {n1 c1 n2 c2 : Nat} {w : World} (h0 : 0 ≤ a0) (h0' : a0 < 256) (s1 : SrcRow w a1 n1) (l1 : n1 ≤ maxLen) (s2 : SrcRow w a2 n2) (l2 : n2 ≤ maxLen) :
    Calls Try.prog 3 #[.int .u8 a0, .slice a1 n1 c1, .slice a2 n2 c2, .int .u8 a3, .int .i8 a4] w fun e w' => e = .returned (.bool true) ∧ Below w.heap.size w w' := by
  have C6 := hid (c6 (v0 := .int .u8 a0) (v3 := .int .u8 a3) (v4 := .int .i8 a4) (a1 := a1) (a2 := a2) (c1 := c1) (c2 := c2) l1 l2 w)
  have l1' : (n1 : Int) ≤ 9223372036854775807 := by unfold maxLen at l1; omega
  have l2' : (n2 : Int) ≤ 9223372036854775807 := by unfold maxLen at l2; omega
  by_cases hlen : n1 ≤ 64 ∧ n2 ≤ 64
  · by_cases hk : 1 ≤ a0 ∧ a0 ≤ 5
    · obtain ⟨k, rfl⟩ : ∃ k : Nat, a0 = (k : Int) := ⟨a0.toNat, by omega⟩
      obtain ⟨hl1, hl2⟩ := hlen
      have hk1 : 1 ≤ k := by omega
      have hk5 : k ≤ 5 := by omega
      have e1 : ¬ ((k : Int) = 0) := by omega
      have e2 : ((k : Int) == 0) = false := by simp; omega
      have e3 : (k : Int) ≤ 5 := by omega
      have e4 : decide ((k : Int) > 5) = false := by simp; omega
      have e5 : (n1 : Int) ≤ 64 := by omega
      have e6 : (n2 : Int) ≤ 64 := by omega
      have e7 : decide ((n1 : Int) > 64) = false := by simp; omega
      obtain ⟨R, hR, hm⟩ : ∃ R : Array Value, R.size = k ∧ ∀ w, (Instr.makeSlice 26 (.int .i64 (k : Int)) (.int .i64 (k : Int))).run Try.prog w = .ok (.slice (some ⟨w.heap.size, 0, none⟩) k k) (w.alloc (.cells R 36)) := by
        obtain ⟨ii, k1, k2, k3, k4⟩ := info_parts info36
        refine ⟨madeCells (Value.pointer none).cells k, size_madeCells _ _, fun w => ?_⟩
        have hr := run_make (P := Try.prog) w 26 36 ii _ Try.underlying26 k1 k2 .i64 .i64 k k (by omega) (by omega) (by rw [k4]; omega) (by omega)
        rw [k3] at hr
        simpa using hr
      have C7 := hid (c7 (c := c1) (g0_typed w) s1 hl1)
      have S2 := hid s2
      clear s1 s2 l1 l2 hk h0 h0'
      go_enter Try.func3, Try.ntmps3
      go_wp2_with fail
      refine C6.out.mono ?_
      rintro e w' ⟨b, rfl, hw⟩
      have hw := hw.symm
      subst hw
      cases b
      · go_wp2_with fail
        go_ret
        exact ⟨rfl, Below.refl _ _⟩
      · go_wp2_with fail
        refine C7.out.mono ?_
        rintro e w1 ⟨b1, d1, G1, rfl, L1, T1, B1, P1⟩
        have C7b := hid (c7 (c := c2) (n := n2) (a := a2) T1 (by rw [L1.w0]; exact S2.out) hl2)
        have X1 := hid (And.intro L1 (And.intro B1 (P1 (g0_pl _))))
        clear C6 C7 L1 T1 B1 P1 S2
        go_wp2_with fail
        refine C7b.out.mono ?_
        rintro e w2 ⟨b2, d2, G2, rfl, L2, T2, B2, P2⟩
        have hf := T2.T.fr _ (Nat.le_refl _)
        have T3 : Typed (w2.alloc (.cells R 36)) (G2.put w2.heap.size (kEx (.cells R 36 (0, 0)))) := ⟨T2.T.alloc _ rfl ⟨by simp, by simp, by simp, by simp, by simp⟩, T2.A⟩
        have hw3 : (G2.put w2.heap.size (kEx (.cells R 36 (0, 0)))).w0 = w := L2.w0.trans X1.out.1.w0
        have P3 : Pl (G2.put w2.heap.size (kEx (.cells R 36 (0, 0)))) := (P2 X1.out.2.2).put _ _ (.inl rfl)
        have keep : ∀ b o, G2.kd b = kEx o → (G2.put w2.heap.size (kEx (.cells R 36 (0, 0)))).kd b = kEx o ∧ b ≠ w2.heap.size := fun b o h => by
          have hne : b ≠ w2.heap.size := fun e => by rw [e, hf] at h; cases h
          rw [Gh.put_ne _ _ hne]; exact ⟨h, hne⟩
        have C8 := fun lf al => hid (c8 (lf := lf) (al := al) T3 P3 hk5 (Gh.put_at _ _ _) T2.T.size hR)
        have B1' := (X1.out.2.1.le L2)
        have BB := hid (And.intro B1' (And.intro B2 (And.intro keep hw3)))
        generalize G2.put w2.heap.size (kEx (.cells R 36 (0, 0))) = G3 at *
        clear C7b L2 T2 B2 P2 T3 P3 keep hf hw3 X1 B1'
        generalize hrc : w2.heap.size = rcb at *
        go_wp2_with fail
        refine (C8 _ _).out.mono ?_
        rintro e w3 ⟨nbk, G4, rfl, T4, hk4, ht4, hw4, N4, R4, keep4⟩
        obtain ⟨q1, q2, q3, q4⟩ := BB.out
        have Bo : ByteRow G4 b1 n1 := q1.keep fun b o h => keep4 b o (q3 b o h).2 (q3 b o h).1
        have Bm : ByteRow G4 b2 n2 := q2.keep fun b o h => keep4 b o (q3 b o h).2 (q3 b o h).1
        have hw4' : G4.w0 = w := hw4.trans q4
        have A4 := hid T4
        have X4 := hid (And.intro N4 (And.intro R4 (And.intro Bo (And.intro Bm hw4'))))
        clear C8 hm hrc hR BB q1 q2 q3 q4 T4 N4 R4 keep4 Bo Bm hw4 hw4'
        go_wp2_with fail
        go_loopg [14] n1 (fun kk j wr => ∃ (jj : Nat) (G : Gh), jj + kk = n1 ∧ j = .int .i64 jj ∧ Le (35 * jj) G4 G ∧ Typed wr G)
        case atStart => exact ⟨0, G4, by omega, rfl, Le.refl G4, A4.out⟩
        case round =>
          obtain ⟨jj, G, hj, rfl, L, T⟩ := hrel
          have hkG : G.k = k := L.k.trans hk4
          by_cases hlt : jj < n1
          · have hlt' : (jj : Int) < (n1 : Int) := by omega
            obtain ⟨rb, z, rfl, hz, hz0, hz1⟩ := (X4.out.2.2.1.le L).cell T.T (fun _ _ => id) hlt
            obtain ⟨zn, rfl⟩ : ∃ zn : Nat, z = (zn : Int) := ⟨z.toNat, by omega⟩
            have hzn : zn < 256 := by omega
            have C10 := hid (c10 (ad := b2) (n := n2) (c := d2) (j := jj) (w := wr) (by omega) (fun h => by
              obtain ⟨rb, z, e1, e2, -⟩ := (X4.out.2.2.2.1.le L).cell T.T (fun _ _ => id) h
              exact ⟨rb, z, e1, e2⟩))
            have hmod : zn % k < k := Nat.mod_lt _ (by omega)
            have C9 := fun a ms => hid (c9 (i := zn % k) (a := a) (ms := ms) T (X4.out.1.le L) (by rw [hkG]; exact hmod) (by have := L.t1; omega))
            have emod : ((zn % k : Nat) : Int) = (zn : Int) % (k : Int) := by simp
            rw [hkG, emod] at C9
            clear emod
            have J := hid hj
            have LL := hid L
            clear T L hj
            go_wp2_with fail
            refine C10.out.mono ?_
            rintro e w5 ⟨ms, rfl, hw⟩
            have hw := hw.symm
            subst hw
            clear C10
            go_wp2_with fail
            refine (C9 _ _).out.mono ?_
            rintro e w6 ⟨rfl, G6, L6, T6⟩
            have X6 := hid (And.intro (LL.out.trans L6) T6)
            clear C9 L6 T6 hz LL
            go_wp2_with fail
            go_loopg [18] k (fun kk x wr => ∃ (xx : Nat) (G : Gh), xx + kk = k ∧ x = .int .i64 xx ∧ Le (35 * (jj + 1)) G4 G ∧ Typed wr G)
            case atStart => exact ⟨0, G6, by omega, rfl, X6.out.1.mono (by omega), X6.out.2⟩
            case round =>
              obtain ⟨xx, G7, hxj, rfl, L7, T7⟩ := hrel
              have hk7 : G7.k = k := L7.k.trans hk4
              by_cases hlx : xx < k
              · have hlx' : (xx : Int) < (k : Int) := by omega
                have hx7 : xx < G7.k := by rw [hk7]; exact hlx
                have nc := (X4.out.1.le L7).cell T7.T id hx7
                have rc := (X4.out.2.1.le L7).cell T7.T id hx7
                have C12 := hid (c12 ⟨T7.T.drew, T7.A⟩ hx7)
                have LL7 := hid L7
                have JX := hid hxj
                clear L7 T7 hxj
                go_upto_region 24 with fail
                go_cut [103] (fun s wd => s = .bool false ∧ ∃ G8, Le 0 G7 G8 ∧ Typed wd G8)
                case first =>
                  --<a
                  go_region_with (first | (go_at_call 12; refine C12.out.mono ?_; rintro e w8 ⟨v8, G8, rfl, L8, T8, hrs8, own8⟩; have hx8 : xx < G8.k := (by rw [L8.k]; exact hx7); have rc8 := ((X4.out.2.1.le LL7.out).le L8).cell T8.T id hx8; rw [← hrs8] at own8; have C11 := hid (c11 T8 hx8 own8); have hl8 : G8.lay = G7.lay := L8.lay; have hk8 : G8.k = k := (L8.k.trans hk7); rw [hl8] at rc8; rw [hl8, hk8] at C11; have X8 := hid (And.intro L8 T8); clear L8 T8 hrs8 own8 hx8) | (go_at_call 11; refine C11.out.mono ?_; rintro e w9 ⟨q9, rfl, rfl⟩))
                  all_goals
                    go_wp2_with fail
                    go_meet
                    case rel => exact ⟨rfl, G8, X8.out.1, X8.out.2.T.drewN _, X8.out.2.A⟩
                  -->a
                case rest =>
                  obtain ⟨rfl, G8, L8, T8⟩ := hcut
                  clear nc rc C12
                  have hx8 : xx < G8.k := by rw [L8.k]; exact hx7
                  have rc := ((X4.out.2.1.le LL7.out).le L8).cell T8.T id hx8
                  obtain ⟨ad, cc, fr, hro, hfr, -⟩ := T8.T.recs hx8 id (fun _ _ => id)
                  have hfr2 : ∃ f1 f2 f3, fr = .slice f1 f2 f3 := by
                    rcases hfr with rfl | ⟨b, n, c, rfl, -⟩
                    · exact ⟨_, _, _, rfl⟩
                    · exact ⟨_, _, _, rfl⟩
                  obtain ⟨f1, f2, f3, rfl⟩ := hfr2
                  have r2 := (cell_of hro 2).trans (rfl : _ = some (Value.slice f1 f2 f3))
                  have rf := fz_of hro 2
                  have NX := hid (And.intro (LL7.out.trans L8) (And.intro (T8.T.r2 hx8) T8.A))
                  clear L8 T8 hro hfr LL7
                  go_wp2_with fail
                  go_roundg (k - (xx + 1))
                  case measure => have := JX.out; omega
                  case rel => exact ⟨xx + 1, G8, by have := JX.out; omega, rfl, NX.out.1, NX.out.2.1, NX.out.2.2⟩
              · have hgx : (k : Int) ≤ (xx : Int) := by omega
                have X7 := hid (And.intro L7 T7)
                clear L7 T7
                go_wp2_with fail
                go_roundg (n1 - (jj + 1))
                case measure => have := J.out; omega
                case rel => exact ⟨jj + 1, G7, by have := J.out; omega, rfl, X7.out⟩
          · have hge : (n1 : Int) ≤ (jj : Int) := by omega
            have X := hid (And.intro L T)
            clear L T
            go_wp2_with fail
            go_ret
            refine ⟨rfl, ?_⟩
            have hb := X.out.2.T.below
            rw [X.out.1.w0, X4.out.2.2.2.2] at hb
            exact hb
    · --<b
      have hk' : a0 = 0 ∨ 5 < a0 := by omega
      have e5 : (n1 : Int) ≤ 64 := by omega
      have e6 : (n2 : Int) ≤ 64 := by omega
      rcases hk' with rfl | hk'
      · clear hk s1 s2
        go_enter Try.func3, Try.ntmps3
        go_wp2_with fail
        refine C6.out.mono ?_
        rintro e w' ⟨b, rfl, rfl⟩
        cases b
        all_goals
          go_wp2_with fail
          go_ret
          exact ⟨rfl, Below.refl _ _⟩
      · have e1 : (a0 == 0) = false := by simp; omega
        clear hk s1 s2
        go_enter Try.func3, Try.ntmps3
        go_wp2_with fail
        refine C6.out.mono ?_
        rintro e w' ⟨b, rfl, rfl⟩
        cases b
        all_goals
          go_wp2_with fail
          go_ret
          exact ⟨rfl, Below.refl _ _⟩
      -->b
  · --<c
    by_cases hl1 : n1 ≤ 64
    · have hl2 : ¬ n2 ≤ 64 := fun h => hlen ⟨hl1, h⟩
      have e5 : (n1 : Int) ≤ 64 := by omega
      have e6 : (64 : Int) < (n2 : Int) := by omega
      clear hlen s1 s2
      go_enter Try.func3, Try.ntmps3
      go_wp2_with fail
      refine C6.out.mono ?_
      rintro e w' ⟨b, rfl, rfl⟩
      cases b
      all_goals
        go_wp2_with fail
        all_goals
          go_ret
          exact ⟨rfl, Below.refl _ _⟩
    · have e5 : (64 : Int) < (n1 : Int) := by omega
      clear hlen s1 s2
      go_enter Try.func3, Try.ntmps3
      go_wp2_with fail
      refine C6.out.mono ?_
      rintro e w' ⟨b, rfl, rfl⟩
      cases b
      all_goals
        go_wp2_with fail
        all_goals
          go_ret
          exact ⟨rfl, Below.refl _ _⟩
    -->c

theorem wf_u8 {n : Int} (h : (Lit.int .u8 n).wf = true) : 0 ≤ n ∧ n < 256 := by
  simp [Lit.wf, IntKind.min, IntKind.max, IntKind.bits, IntKind.signed] at h
  omega
/-- a row of bytes that came in, as the frame tells of it -/
theorem src_of {w : World} {a : Option Addr} {len cap : Nat} {zs : List Int} (h : (a = none ∧ len = 0 ∧ cap = 0 ∧ zs = []) ∨ ∃ x, a = some x ∧ len ≤ cap ∧ cap ≤ maxLen ∧ zs.length = cap ∧ (∀ i, i < zs.length → w.cell? (x.add i) = some (.int .u8 (zs.getD i 0))) ∧ ∀ n ∈ zs, (Lit.int .u8 n).wf = true) : SrcRow w a len ∧ len ≤ maxLen := by
  rcases h with ⟨rfl, rfl, -, -⟩ | ⟨x, rfl, h1, h2, h3, h4, h5⟩
  · exact ⟨.inl ⟨rfl, rfl⟩, by unfold maxLen; omega⟩
  · refine ⟨.inr ⟨x, rfl, fun h => ?_, fun i hi => ?_⟩, by omega⟩
    · have := block_lt_of_cell (h4 0 (by omega))
      rw [add_blk] at this
      exact this
    · refine ⟨zs.getD i 0, h4 i (by omega), wf_u8 (h5 _ ?_)⟩
      have hi' : i < zs.length := by omega
      simp [List.getD, hi']
theorem the_walk {a0 a3 a4 : Int} {a1 a2 : Option Addr} {len1 cap1 len2 cap2 : Nat} {z1 z2 : List Int} {w : World} (w0 : (Lit.int .u8 a0).wf = true)
    (w1 : (a1 = none ∧ len1 = 0 ∧ cap1 = 0 ∧ z1 = []) ∨ ∃ x, a1 = some x ∧ len1 ≤ cap1 ∧ cap1 ≤ maxLen ∧ z1.length = cap1 ∧ (∀ i, i < z1.length → w.cell? (x.add i) = some (.int .u8 (z1.getD i 0))) ∧ ∀ n ∈ z1, (Lit.int .u8 n).wf = true)
    (w2 : (a2 = none ∧ len2 = 0 ∧ cap2 = 0 ∧ z2 = []) ∨ ∃ x, a2 = some x ∧ len2 ≤ cap2 ∧ cap2 ≤ maxLen ∧ z2.length = cap2 ∧ (∀ i, i < z2.length → w.cell? (x.add i) = some (.int .u8 (z2.getD i 0))) ∧ ∀ n ∈ z2, (Lit.int .u8 n).wf = true) :
    Calls Try.prog 3 #[.int .u8 a0, .slice a1 len1 cap1, .slice a2 len2 cap2, .int .u8 a3, .int .i8 a4] w fun e w' => e = .returned (.bool true) ∧ Below w.heap.size w w' :=
  c3 (wf_u8 w0).1 (wf_u8 w0).2 (src_of w1).1 (src_of w1).2 (src_of w2).1 (src_of w2).2
end Go.Proofs.Qxb6002353a
