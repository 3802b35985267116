/-
  SEAT b6002353a: Query.
-/
import Derived.Test.Qxb6002353aMsgs
namespace Go.Proofs.Qxb6002353a
open Go.RowKit
set_option linter.unusedVariables false
set_option linter.unusedSimpArgs false

set_option maxHeartbeats 8000000 in
set_option maxRecDepth 100000 in
theorem c17 {w G x} (T : Typed w G) (hx : x < G.k) (ht : G.t + 5 ≤ 100000) : Calls Try.prog 17 #[.pointer (some ⟨(G.lay x).nb, 0, none⟩)] w fun e w' => QPost G e w' := by
  have hfree : (G.kd w.heap.size).t = 0 := by rw [T.T.fr _ (Nat.le_refl _)]
  obtain ⟨G1, L1, T1, hz1, ht1⟩ : ∃ G1, Le 0 G G1 ∧ Typed (w.alloc (.cells zMsg 44)) G1 ∧ G1.kd w.heap.size = kEx (.cells zMsg 44 (0, 0)) ∧ G1.t = G.t :=
    ⟨G.put w.heap.size (kEx (.cells zMsg 44 (0, 0))), Le.put _ hfree, ⟨T.T.alloc _ rfl ⟨by simp, by simp, by simp, by simp, by simp⟩, T.A⟩, Gh.put_at _ _ _, rfl⟩
  have hx1 : x < G1.k := by rw [L1.k]; exact hx
  have hl1 : G1.lay = G.lay := L1.lay
  have hb0 : G1.w0.heap.size ≤ w.heap.size := by rw [L1.w0]; exact T.T.size
  have C30 : Hid (Calls Try.prog 30 #[.pointer (some ⟨(G.lay x).nb, 0, none⟩)] (w.alloc (.cells zMsg 44)) fun e w' => UnT G1 e w') := by rw [← hl1]; exact c30 T1 hx1
  have ZZ := hid (And.intro hfree (And.intro L1 (And.intro hz1 hb0)))
  have HT := hid (ht1 ▸ ht)
  clear T T1 hfree L1 hz1 hb0 ht ht1
  generalize hr : w.heap.size = r at *
  go_enter Try.func17, Try.ntmps17
  go_wp2_with fail
  refine C30.out.mono ?_
  rintro e w1 ⟨rfl, T2⟩
  clear hr C30
  go_upto_region 2 with fail
  go_cut [20] (fun s wd => ∃ b, s = .bool b ∧ Typed wd G1)
  case first =>
    --<a
    obtain ⟨v, vo, n⟩ := T2.T.node hx1 id
    have nc12 := n.c12
    have nc13 := n.c13
    have C31 : Hid (Calls Try.prog 31 #[.pointer (some ⟨(G.lay x).nb, 0, none⟩)] w1.drew fun e w' => RdI .i64 w1.drew e w') := by rw [← hl1]; exact c31 ⟨T2.T.drew, T2.A⟩ hx1
    have A := hid T2
    rw [hl1] at nc12 nc13
    clear T2 n vo
    by_cases h0 : G1.rd x = 0
    · rw [h0] at nc12
      go_wp2_with fail
      go_quiet (fail)
      go_wp2_with fail
      go_meet
      case rel => exact ⟨_, rfl, A.out.T.drewN _, A.out.A⟩
    · have h1 : (G1.rd x == 0) = false := by simp [h0]
      clear h0
      go_wp2_with fail
      go_region_with (go_at_call 31; refine C31.out.mono ?_; rintro e w2 ⟨z, q, rfl, rfl⟩)
      all_goals
        go_wp2_with fail
        go_meet
        case rel => exact ⟨_, rfl, A.out.T.drewN _, A.out.A⟩
    -->a
  case rest =>
    obtain ⟨bb, rfl, T3⟩ := hcut
    clear T2
    go_upto_if 20 with fail
    go_cut [28] (fun s wd => ∃ G3, Le 5 G1 G3 ∧ Typed wd G3)
    case first =>
      --<c
      cases bb
      · have A := hid T3
        clear T3
        go_wp2_with fail
        go_meet
        case rel => exact ⟨G1, (Le.refl G1).mono (by omega), A.out⟩
      · obtain ⟨v, vo, n⟩ := T3.T.node hx1 id
        have nc12 := n.c12
        rw [hl1] at nc12
        have A := hid T3
        have C32 : Hid (Calls Try.prog 32 #[.pointer (some ⟨(G.lay x).nb, 0, none⟩)] wc fun e w' => Un 5 G1 e w') := by rw [← hl1]; exact c32 T3 hx1 HT.out
        clear T3 n vo
        go_upto_if 25 with fail
        go_cut [26] (fun s wd => ∃ G3, Le 5 G1 G3 ∧ Typed wd G3)
        case first =>
          --<b
          by_cases h0 : 0 < G1.rd x
          · go_wp2_with fail
            refine C32.out.mono ?_
            rintro e w2 ⟨rfl, G2, L2, T4⟩
            have B := hid (And.intro L2 T4)
            clear L2 T4 nc12
            go_wp2_with fail
            go_meet
            case rel => exact ⟨G2, B.out⟩
          · have h1 : G1.rd x ≤ 0 := by omega
            clear h0
            go_wp2_with fail
            go_meet
            case rel => exact ⟨G1, (Le.refl G1).mono (by omega), A.out⟩
          -->b
        case rest =>
          obtain ⟨G2, L2, T4⟩ := hcut
          clear nc12 C32 A
          have hx2 : x < G2.k := by rw [L2.k]; exact hx1
          have hl2 : G2.lay = G.lay := L2.lay.trans hl1
          obtain ⟨v, vo, n⟩ := T4.T.node hx2 id
          have nc12 := n.c12
          have nc4 := n.c4
          have nc13 := n.c13
          have nc0 := n.c0
          have nf := n.fz
          have look : ∀ z, (Instr.lookup 59 (.map (some (G2.lay x).pm)) (.string (nm x)) false).run Try.prog ((wc.setCell ⟨(G2.lay x).nb, 12, none⟩ (.int .u64 z)).drew) = .ok (.pointer (some ⟨(G2.lay x).sb, 0, none⟩)) ((wc.setCell ⟨(G2.lay x).nb, 12, none⟩ (.int .u64 z)).drew) := fun z =>
            look_pmW T4.T hx2 id _ (setCell_other (kd_ne (T4.T.pm x hx2) (T4.T.nb x hx2) (by simp)))
          have RU := fun z => hid (round_up (z := z) T4 hx2)
          obtain ⟨pv, -, -, P⟩ := T4.T.peer (T4.T.sb x hx2) id
          have pc3 := P.c3
          have pf := P.fz 3
          have ne1 := kd_ne (T4.T.sb x hx2) (T4.T.nb x hx2) (by simp)
          rw [hl2] at nc12 nc13 nc4 nc0 nf look pc3 pf ne1 RU
          have A := hid (And.intro L2 T4)
          clear T4 L2 n vo P
          go_wp2_with fail
          go_region
          all_goals
            go_wp2_with fail
            go_meet
            case rel =>
              have R := (RU (IntKind.u64.wrap (G2.rd x + 1))).out
              refine ⟨_, (A.out.1.trans (Le.next G2 x _)).mono (by omega), ?_, R.A⟩
              have R2 := R.T.n13 (x := x) (z := 1) hx2
              rw [show (G2.next x (IntKind.u64.wrap (G2.rd x + 1))).lay = G.lay from hl2] at R2
              exact R2
    -->c
    case rest =>
      obtain ⟨G2, L2, T4⟩ := hcut
      clear T3
      have hx2 : x < G2.k := by rw [L2.k]; exact hx1
      have hl2 : G2.lay = G.lay := L2.lay.trans hl1
      have hz2 : G2.kd r = kEx (.cells zMsg 44 (0, 0)) := L2.up ZZ.out.2.2.1 (by simp) (by simp) (by simp)
      obtain ⟨v, vo, n⟩ := T4.T.node hx2 id
      have nc0 := n.c0
      have nc12 := n.c12
      have nc19 := n.c19
      have nc20 := n.c20
      have nc21 := n.c21
      have nf := n.fz
      rw [hl2] at nc0 nc12 nc19 nc20 nc21 nf
      have T5 := fun mv : MV => hid (T4.T.alloc (o := .cells mv.arr 44) kMsg)
      have LL := hid L2
      have A := hid T4
      have Z2 := hid hz2
      have hnl : (G.lay x).nb < wc.heap.size := by rw [← hl2]; exact T4.T.lt (T4.T.nb x hx2) (by simp)
      clear T4 L2 n vo hz2
      go_upto_region 8 with fail
      go_cut [3] (fun s wd => ∃ mb G3, s = .pointer (some ⟨mb, 0, none⟩) ∧ Le 0 G2 G3 ∧ Typed wd G3 ∧ G3.kd mb = kMsg)
      case first =>
        --<d
        go_region
        all_goals
          go_wp2_with fail
          go_meet
          case rel => exact ⟨wc.heap.size, G2.put wc.heap.size kMsg, rfl, Le.put _ (by rw [A.out.T.fr _ (Nat.le_refl _)]), ⟨(A.out.T.alloc (o := .cells (MV.arr ⟨2, G2.rd x, v.wa, 0, 0, nm x, v.su, .slice none 0 0, .slice none 0 0, .slice none 0 0⟩) 44) kMsg ⟨_, rfl, ⟨⟨x, hx2, rfl⟩, .inl rfl, .inl ⟨rfl, rfl⟩⟩⟩ ⟨by simp, by simp, by simp, by simp, by simp⟩).drew, A.out.A⟩, Gh.put_at _ _ _⟩
        -->d
      case rest =>
        obtain ⟨mb, G3, rfl, L3, T6, hmb⟩ := hcut
        clear nc0 nc12 nc19 nc20 nc21 nf A hnl T5
        have hx3 : x < G3.k := by rw [L3.k]; exact hx2
        have hl3 : G3.lay = G.lay := L3.lay.trans hl2
        obtain ⟨v3, vo3, n3⟩ := T6.T.node hx3 id
        have nc21 := n3.c21
        have nf21 := n3.fz 21
        have C33 : Hid (Calls Try.prog 33 #[.pointer (some ⟨(G.lay x).nb, 0, none⟩)] (wc.setCell ⟨(G.lay x).nb, 21, none⟩ (.bool false)) fun e w' => HPost G3 e w') := by rw [← hl3]; exact c33 ⟨T6.T.n21 hx3, T6.A⟩ hx3
        rw [hl3] at nc21 nf21
        have M3 := hid hmb
        have LL3 := hid (LL.out.trans L3)
        clear L3 T6 hmb n3 vo3 LL
        go_wp2_with fail
        refine C33.out.mono ?_
        rintro e w5 ⟨av, G4, rfl, L4, T7, hE⟩
        clear nc21 nf21 C33
        have hx4 : x < G4.k := by rw [L4.k]; exact hx3
        have hl4 : G4.lay = G.lay := L4.lay.trans hl3
        have hmb : G4.kd mb = kMsg := L4.up M3.out (by simp) (by simp) (by simp)
        obtain ⟨ad, nn, cc, rfl, h5, -⟩ := hE.shape
        have A := hid T7
        have M4 := hid hmb
        have LL4 := hid (LL3.out.trans L4)
        clear T7 hmb hE L4
        go_upto_if 77 with fail
        go_cut [78] (fun s wd => Typed wd G4)
        case first =>
          --<e
          by_cases h0 : nn = 0
          · subst h0
            go_wp2_with fail
            go_meet
            case rel => exact A.out
          · have h1 : (0 : Int) < (nn : Int) := by omega
            have h2 : decide (0 < nn) = true := by simp; omega
            obtain ⟨v4, vo4, n4⟩ := A.out.T.node hx4 id
            have nc10 := n4.c10
            rw [hl4] at nc10
            obtain ⟨mv, mo, m⟩ := A.out.T.msg M4.out id
            have m5 := m.c5
            have m6 := m.c6
            have mf := m.fz
            clear m mo n4 vo4
            go_wp2_with fail
            go_meet
            case rel => exact ⟨(A.out.T.m5 M4.out).m6 M4.out, A.out.A⟩
          -->e
        case rest =>
          have T8 := hcut
          clear A hcut
          obtain ⟨v4, vo4, n4⟩ := T8.T.node hx4 id
          have nc14 := n4.c14
          have nc23 := n4.c23
          have nc15 := n4.c15
          rw [hl4] at nc14 nc15 nc23
          have C28 : ∀ b, Hid (Calls Try.prog 28 #[.pointer (some ⟨(G.lay x).nb, 0, none⟩), .bool b] wc.drew fun e w' => HPost G4 e w') := fun b => by rw [← hl4]; exact c28 ⟨T8.T.drew, T8.A⟩ hx4
          have C34 := fun z => hid (c34 z wc.drew)
          clear T8 n4 vo4
          go_upto_region 13 with fail
          go_cut [106] (fun s wd => ∃ G6, Le 0 G4 G6 ∧ Typed wd G6)
          case first =>
            cases hwh : v4.wh
            · --<f
              rw [hwh] at nc14
              clear hwh
              go_region_with (first | (go_at_call 34; refine (C34 _).out.mono ?_; rintro e w6 ⟨y, rfl, rfl⟩) | (go_at_call 28; refine (C28 _).out.mono ?_; rintro e w6 ⟨pv, G6, rfl, L6, T9, hE⟩; obtain ⟨a7, n7, c7, hpv, -, -⟩ := hE.shape; subst hpv; have hm6 := L6.up M4.out (by simp) (by simp) (by simp); obtain ⟨mv, mo, m⟩ := T9.T.msg hm6 id; have m7 := m.c7; have mf7 := m.fz 7; have FIN : Hid (∃ G6, Le 0 G4 G6 ∧ Typed (w6.setCell ⟨mb, 7, none⟩ (.slice a7 n7 c7)) G6) := ⟨G6, L6, T9.T.m7 hm6 hE, T9.A⟩; clear m mo hm6 L6 T9 hE))
              all_goals
                go_wp2_with fail
                go_meet
                case rel => exact FIN.out
              -->f
            · --<g
              rw [hwh] at nc14
              clear hwh
              refine wp_region_any (by kernel_rfl) ?_
              change wpAny _ _ _ _ _ _ _ (World.drew _)
              refine wpAny_takeD (i := 0) (d := some 87) (v := .pointer (some ⟨(G.lay x).nb, 0, none⟩)) rfl rfl (by kernel_rfl) (by kernel_rfl) (by kernel_rfl) (fun _ _ _ h => h) (Or.inl ⟨by rfl, fun w => by go_simp⟩) ?_ ; simp only [Act.put, List.setIfInBounds_toArray, List.set_cons_zero, List.set_cons_succ]
              refine wpAny_takeD (i := 1) (d := some 88) (v := .pointer (some ⟨(G.lay x).nb, 0, none⟩)) rfl rfl (by kernel_rfl) (by kernel_rfl) (by kernel_rfl) (fun _ _ _ h => h) (Or.inl ⟨by rfl, fun w => by go_simp⟩) ?_ ; simp only [Act.put, List.setIfInBounds_toArray, List.set_cons_zero, List.set_cons_succ]
              refine wpAny_takeD (i := 2) (d := some 89) (v := .pointer (some ⟨(G.lay x).nb, 0, none⟩)) rfl rfl (by kernel_rfl) (by kernel_rfl) (by kernel_rfl) (fun _ _ _ h => h) (Or.inl ⟨by rfl, fun w => by go_simp⟩) ?_ ; simp only [Act.put, List.setIfInBounds_toArray, List.set_cons_zero, List.set_cons_succ]
              refine wpAny_takeD (i := 3) (d := some 90) (v := .pointer (some ⟨(G.lay x).nb, 14, none⟩)) rfl rfl (by kernel_rfl) (by kernel_rfl) (by kernel_rfl) (fun _ _ _ h => h) (Or.inl ⟨by rfl, fun w => by go_simp⟩) ?_ ; simp only [Act.put, List.setIfInBounds_toArray, List.set_cons_zero, List.set_cons_succ]
              refine wpAny_ready (rs := [4]) (by kernel_rfl) (by simp) ?_
              refine AllReady.cons rfl (fun K hK => ?_) AllReady.nil
              go_simp
              refine hK _ _ ?_
              clear hK K
              refine wpAny_takeD (i := 5) (d := some 92) (v := .bool true) rfl rfl (by kernel_rfl) (by kernel_rfl) (by kernel_rfl) (fun _ _ _ h => h) (Or.inl ⟨by rfl, fun w => by go_simp⟩) ?_ ; simp only [Act.put, List.setIfInBounds_toArray, List.set_cons_zero, List.set_cons_succ]
              refine wpAny_skipD (i := 6) (d := 93) (g := 5) (b := false) (gd := 92) (by kernel_rfl) (by kernel_rfl) (by kernel_rfl) (by kernel_rfl) (fun _ _ _ h => h) (by kernel_rfl) rfl ?_ ; simp only [Act.put, List.setIfInBounds_toArray, List.set_cons_zero, List.set_cons_succ]
              refine wpAny_skipD (i := 7) (d := 94) (g := 5) (b := false) (gd := 92) (by kernel_rfl) (by kernel_rfl) (by kernel_rfl) (by kernel_rfl) (fun _ _ _ h => h) (by kernel_rfl) rfl ?_ ; simp only [Act.put, List.setIfInBounds_toArray, List.set_cons_zero, List.set_cons_succ]
              refine wpAny_skipD (i := 8) (d := 95) (g := 5) (b := false) (gd := 92) (by kernel_rfl) (by kernel_rfl) (by kernel_rfl) (by kernel_rfl) (fun _ _ _ h => h) (by kernel_rfl) rfl ?_ ; simp only [Act.put, List.setIfInBounds_toArray, List.set_cons_zero, List.set_cons_succ]
              refine wpAny_skipD (i := 9) (d := 96) (g := 5) (b := false) (gd := 92) (by kernel_rfl) (by kernel_rfl) (by kernel_rfl) (by kernel_rfl) (fun _ _ _ h => h) (by kernel_rfl) rfl ?_ ; simp only [Act.put, List.setIfInBounds_toArray, List.set_cons_zero, List.set_cons_succ]
              refine wpAny_skipD (i := 10) (d := 97) (g := 5) (b := false) (gd := 92) (by kernel_rfl) (by kernel_rfl) (by kernel_rfl) (by kernel_rfl) (fun _ _ _ h => h) (by kernel_rfl) rfl ?_ ; simp only [Act.put, List.setIfInBounds_toArray, List.set_cons_zero, List.set_cons_succ]
              refine wpAny_skipD (i := 11) (d := 98) (g := 5) (b := false) (gd := 92) (by kernel_rfl) (by kernel_rfl) (by kernel_rfl) (by kernel_rfl) (fun _ _ _ h => h) (by kernel_rfl) rfl ?_ ; simp only [Act.put, List.setIfInBounds_toArray, List.set_cons_zero, List.set_cons_succ]
              refine wpAny_skipD (i := 12) (d := 99) (g := 5) (b := false) (gd := 92) (by kernel_rfl) (by kernel_rfl) (by kernel_rfl) (by kernel_rfl) (fun _ _ _ h => h) (by kernel_rfl) rfl ?_ ; simp only [Act.put, List.setIfInBounds_toArray, List.set_cons_zero, List.set_cons_succ]
              refine wpAny_skipD (i := 13) (d := 100) (g := 5) (b := false) (gd := 92) (by kernel_rfl) (by kernel_rfl) (by kernel_rfl) (by kernel_rfl) (fun _ _ _ h => h) (by kernel_rfl) rfl ?_ ; simp only [Act.put, List.setIfInBounds_toArray, List.set_cons_zero, List.set_cons_succ]
              refine wpAny_skipD (i := 14) (d := 101) (g := 5) (b := false) (gd := 92) (by kernel_rfl) (by kernel_rfl) (by kernel_rfl) (by kernel_rfl) (fun _ _ _ h => h) (by kernel_rfl) rfl ?_ ; simp only [Act.put, List.setIfInBounds_toArray, List.set_cons_zero, List.set_cons_succ]
              refine wpAny_skipD (i := 15) (d := 102) (g := 5) (b := false) (gd := 92) (by kernel_rfl) (by kernel_rfl) (by kernel_rfl) (by kernel_rfl) (fun _ _ _ h => h) (by kernel_rfl) rfl ?_ ; simp only [Act.put, List.setIfInBounds_toArray, List.set_cons_zero, List.set_cons_succ]
              refine wpAny_skipD (i := 16) (d := 103) (g := 5) (b := false) (gd := 92) (by kernel_rfl) (by kernel_rfl) (by kernel_rfl) (by kernel_rfl) (fun _ _ _ h => h) (by kernel_rfl) rfl ?_ ; simp only [Act.put, List.setIfInBounds_toArray, List.set_cons_zero, List.set_cons_succ]
              refine wpAny_takeD (i := 17) (d := some 104) (v := .bool true) rfl rfl (by kernel_rfl) (by kernel_rfl) (by kernel_rfl) (fun _ _ _ h => h) (Or.inl ⟨by rfl, fun w => by go_simp⟩) ?_ ; simp only [Act.put, List.setIfInBounds_toArray, List.set_cons_zero, List.set_cons_succ]
              refine wpAny_ready (rs := [18]) (by kernel_rfl) (by simp) ?_
              refine AllReady.cons rfl (fun K hK => ?_) AllReady.nil
              have HK := hid hK
              clear hK
              go_simp
              go_wp2_with (go_at_call 28; refine (C28 _).out.mono ?_; rintro e w6 ⟨pv, G6, rfl, L6, T9, hE⟩; obtain ⟨a7, n7, c7, hpv, -, -⟩ := hE.shape; subst hpv; have hm6 := L6.up M4.out (by simp) (by simp) (by simp); obtain ⟨mv, mo, m⟩ := T9.T.msg hm6 id; have m7 := m.c7; have mf7 := m.fz 7; have FIN : Hid (∃ G6, Le 0 G4 G6 ∧ Typed (w6.setCell ⟨mb, 7, none⟩ (.slice a7 n7 c7)) G6) := ⟨G6, L6, T9.T.m7 hm6 hE, T9.A⟩; clear m mo hm6 L6 T9 hE)
              refine HK.out _ _ ?_
              clear HK K
              refine wpAny_takeD (i := 19) (d := some 106) (v := .pointer (some ⟨mb, 7, none⟩)) rfl rfl (by kernel_rfl) (by kernel_rfl) (by kernel_rfl) (fun _ _ _ h => h) (Or.inl ⟨by rfl, fun w => by go_simp⟩) ?_ ; simp only [Act.put, List.setIfInBounds_toArray, List.set_cons_zero, List.set_cons_succ]
              refine wpAny_ready (rs := [20]) (by kernel_rfl) (by simp) ?_
              refine AllReady.cons rfl (fun K hK => ?_) AllReady.nil
              have HK := hid hK
              clear hK
              go_simp
              refine HK.out _ _ ?_
              clear HK K
              refine wpAny_done (by kernel_rfl) ?_ _
              go_wp2_with fail
              go_meet
              case rel => exact FIN.out
              -->g
          case rest =>
            obtain ⟨G6, L6, T9⟩ := hcut
            clear nc14 nc15 nc23 C28 C34
            have hx6 : x < G6.k := by rw [L6.k]; exact hx4
            have hl6 : G6.lay = G.lay := L6.lay.trans hl4
            have hm6 : G6.kd mb = kMsg := L6.up M4.out (by simp) (by simp) (by simp)
            have C29 : Hid (Calls Try.prog 29 #[.pointer (some ⟨(G.lay x).nb, 0, none⟩), .pointer (some ⟨mb, 0, none⟩)] wc fun e w' => Un 0 G6 e w') := by rw [← hl6]; exact c29 T9 hx6 hm6
            have LL6 := hid (LL4.out.trans L6)
            have M6 := hid hm6
            clear T9 L6 hm6 LL4 M4
            go_wp2_with fail
            refine C29.out.mono ?_
            rintro e w7 ⟨rfl, G7, L7, T10⟩
            clear C29
            have hm7 : G7.kd mb = kMsg := L7.up M6.out (by simp) (by simp) (by simp)
            have hz7 : G7.kd r = kEx (.cells zMsg 44 (0, 0)) := L7.up (LL6.out.up ZZ.out.2.2.1 (by simp) (by simp) (by simp)) (by simp) (by simp) (by simp)
            obtain ⟨mv, mo, m⟩ := T10.T.msg hm7 id
            obtain ⟨p1, p2, p3, hps, -, -⟩ := mo.ps.shape
            obtain ⟨a1, a2, a3, a4, a5, a6, han, hrs⟩ := mo.an.shape
            have zo := T10.T.exact hz7 id
            have zc := fun i => (cell_of zo i)
            have zf := fz_of zo
            have z0 := (zc 0).trans (rfl : _ = some (Value.int .u8 0))
            have z1 := (zc 1).trans (rfl : _ = some (Value.string ⟨#[]⟩))
            have z2 := (zc 2).trans (rfl : _ = some (Value.int .u64 0))
            have z3 := (zc 3).trans (rfl : _ = some (Value.int .u64 0))
            have z4 := (zc 4).trans (rfl : _ = some (Value.bool false))
            have z5 := (zc 5).trans (rfl : _ = some (Value.int .u64 0))
            have z6 := (zc 6).trans (rfl : _ = some (Value.int .u64 0))
            have z7 := (zc 7).trans (rfl : _ = some (Value.slice none 0 0))
            have z8 := (zc 8).trans (rfl : _ = some (Value.slice none 0 0))
            have z9 := (zc 9).trans (rfl : _ = some (Value.slice none 0 0))
            have m0 := m.c0
            have m1 := m.c1
            have m2 := m.c2
            have m3 := m.c3
            have m4 := m.c4
            have m5 := m.c5
            have m6 := m.c6
            have m7 := m.c7
            have m8 := m.c8
            have m9 := m.c9
            have mf := m.fz
            rw [hps] at m7
            rw [han] at m8
            rw [hrs] at m9
            have ne : mb ≠ r := fun e => by rw [e, hz7] at hm7; cases hm7
            have ne2 : r ≠ mb := ne.symm
            have A := hid (And.intro L7 (And.intro T10 (And.intro mo hz7)))
            have E := hid (And.intro hps (And.intro han hrs))
            have ZO := hid zo
            clear T10 L7 mo m zc zo hps han hrs hm7 hz7
            go_wp2_with fail
            refine bodyPost_ret (results_cell_row (P := Try.prog) (ty := 44) rfl _ _ r 44 mv.arr (0, 0) _ rfl (by unfold MV.arr; rw [E.out.1, E.out.2.1, E.out.2.2]; exact msg_store ZO.out _ _ _ _ _ _ _ _ _ _) Try.underlying44 rfl info44) rfl ?_
            obtain ⟨L7, T10, mo, hz7⟩ := A.out
            have hb7 : G7.w0.heap.size ≤ r := by rw [L7.w0, LL6.out.w0]; exact ZZ.out.2.2.2
            have TT := T10.T.rekind (b := r) kAny (.inl (by rw [hz7])) hb7 (fun _ _ _ => trivial) ⟨by simp, by simp, by simp, by simp, by simp⟩
            have k15 : ((G7.put r kAny).kd r).t = 15 := by rw [Gh.put_at]
            refine ⟨mv, G7.put r kAny, rfl, mo.ext (Ext.put _ (.inr (.inl (by rw [hz7])))), ((ZZ.out.2.1.trans (LL6.out.trans L7)).mono (by omega)).turn kAny ZZ.out.1, ?_, T10.A⟩
            exact msg_typed TT k15 _ _ _ _ _ _ _ _ _ _
end Go.Proofs.Qxb6002353a
