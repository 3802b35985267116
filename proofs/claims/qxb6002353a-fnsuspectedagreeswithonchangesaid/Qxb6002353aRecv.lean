/-
  SEAT b6002353a: Receive.
-/
import Derived.Test.Qxb6002353aPeer
namespace Go.Proofs.Qxb6002353a
open Go.RowKit
set_option linter.unusedVariables false
set_option linter.unusedSimpArgs false

/-- one tick of the counter -/
def Gh.tick (G : Gh) : Gh := { G with t := G.t + 1 }

theorem AnsOk.rows {G : Gh} {u v : Value} (h : AnsOk G u v) : ∃ ad nn cc ad2 cc2, u = .slice ad nn cc ∧ v = .slice ad2 nn cc2 ∧ nn ≤ 5 ∧ (0 < nn → ∃ b1 b2, ad = some ⟨b1, 0, none⟩ ∧ ad2 = some ⟨b2, 0, none⟩ ∧ G.kd b1 = kStr nn ∧ G.kd b2 = kU64 nn) := by
  rcases h with ⟨rfl, rfl⟩ | ⟨b1, b2, n, c1, c2, rfl, rfl, h1, h2, h3⟩
  · exact ⟨_, _, _, _, _, rfl, rfl, by omega, fun h => by omega⟩
  · exact ⟨_, _, _, _, _, rfl, rfl, h3, fun _ => ⟨b1, b2, rfl, rfl, h1, h2⟩⟩

set_option maxHeartbeats 8000000 in
set_option maxRecDepth 100000 in
theorem c19 {w G x} {mv : MV} (T : Typed w G) (hx : x < G.k) (mo : mv.Ok G) (ht : G.t + 6 ≤ 100000) : Calls Try.prog 19 #[.pointer (some ⟨(G.lay x).nb, 0, none⟩), .agg mv.arr] w fun e w' => Un 6 G e w' := by
  have hf := T.T.fr _ (Nat.le_refl _)
  obtain ⟨G1, L1, T1, hm1, ht1⟩ : ∃ G1, Le 0 G G1 ∧ Typed (w.alloc (.cells mv.arr 44)) G1 ∧ G1.kd w.heap.size = kMsg ∧ G1.t = G.t :=
    ⟨G.put w.heap.size kMsg, Le.put _ (by rw [hf]), ⟨T.T.alloc kMsg ⟨mv, rfl, mo.ext (Ext.put _ (.inl (by rw [hf])))⟩ ⟨by simp, by simp, by simp, by simp, by simp⟩, T.A⟩, Gh.put_at _ _ _, rfl⟩
  have hx1 : x < G1.k := by rw [L1.k]; exact hx
  have hl1 : G1.lay = G.lay := L1.lay
  obtain ⟨p1, p2, p3, hps, -, -⟩ := mo.ps.shape
  obtain ⟨a1, a2, a3, a4, a5, a6, han, hrs⟩ := mo.an.shape
  have harr : mv.arr = #[.int .u8 mv.kn, .string mv.fr, .int .u64 mv.rd, .int .u64 mv.wa, .bool mv.su, .int .u64 mv.ho, .int .u64 mv.dg, .slice p1 p2 p3, .slice a1 a2 a3, .slice a4 a5 a6] := by unfold MV.arr; rw [hps, han, hrs]
  obtain ⟨nv, nvo, n⟩ := T1.T.node hx1 id
  have nc0 := n.c0
  rw [hl1] at nc0
  have hfr1 : ID G1 mv.fr := mo.fr.le L1
  have C35 : ∀ q, Hid (Calls Try.prog 35 #[.pointer (some ⟨(G.lay x).nb, 0, none⟩), .string mv.fr] ((w.alloc (.cells mv.arr 44)).drewN q) fun e w' => PPost G1 x mv.fr e w') := fun q => by rw [← hl1]; exact c35 ⟨T1.T.drewN q, T1.A⟩ hx1 hfr1
  have mc1 : (w.alloc (.cells mv.arr 44)).cell? ⟨w.heap.size, 1, none⟩ = some (.string mv.fr) := (cell_of (MapKept.heap_alloc w _).1 _).trans rfl
  have AA := hid (And.intro L1 (And.intro hm1 (And.intro T1 (ht1 ▸ ht))))
  generalize hW : w.alloc (.cells mv.arr 44) = W at *
  rw [harr] at hW ⊢
  have E := hid (And.intro harr (And.intro hps (And.intro han hrs)))
  clear T T1 mo hf L1 hm1 ht ht1 hps han hrs n nvo harr hfr1
  generalize hr : w.heap.size = r at *
  go_enter Try.func19, Try.ntmps19
  go_wp2_with fail
  go_quiet (fail)
  go_wp2_with fail
  · refine bodyPost_ret (results_none rfl _ _ _) rfl ?_
    exact ⟨rfl, G1, AA.out.1.mono (by omega), AA.out.2.2.1.T.drewN _, AA.out.2.2.1.A⟩
  · refine (C35 _).out.mono ?_
    rintro e w2 ⟨pb, G2, rfl, L2, T2, hp2⟩
    have hx2 : x < G2.k := by rw [L2.k]; exact hx1
    have hl2 : G2.lay = G.lay := L2.lay.trans hl1
    have hm2 : G2.kd r = kMsg := L2.up AA.out.2.1 (by simp) (by simp) (by simp)
    have ht2 : G2.t + 6 ≤ 100000 := by have := L2.t1; have := AA.out.2.2.2; omega
    clear C35 hW hr mc1 nc0
    obtain ⟨m2, mo2, mm2⟩ := T2.T.msg hm2 id
    have mc0 := mm2.c0
    obtain ⟨pv, -, -, pP⟩ := T2.T.peer hp2 id
    have p4 := pP.c4
    have pf := pP.fz
    clear pP
    have ne : r ≠ pb := kd_ne hm2 hp2 (by simp)
    have ne2 := ne.symm
    have ne3 : (G.lay x).nb ≠ pb := by rw [← hl2]; exact kd_ne (T2.T.nb x hx2) hp2 (by simp)
    have ne4 := ne3.symm
    have ne5 : (G.lay x).nb ≠ r := by rw [← hl2]; exact kd_ne (T2.T.nb x hx2) hm2 (by simp)
    have ne6 := ne5.symm
    have T3 : Typed (w2.setCell ⟨pb, 4, none⟩ (.bool true)) G2 := ⟨T2.T.p4 hp2, T2.A⟩
    have B := hid (And.intro T3 (And.intro (AA.out.1.trans L2) ht2))
    have HM := hid hm2
    have HP := hid hp2
    clear T2 T3 L2 hm2 hp2 mo2 mm2 ht2 AA
    go_upto_block 0 with fail
    go_cut [26] (fun s wd => ∃ G5, Le 6 G2 G5 ∧ Typed wd G5)
    case first =>
      obtain ⟨T3, L0, ht3'⟩ := B.out
      have ht3 := hid ht3'
      clear mc0 p4 pf B L0 ht3'
      generalize w2.setCell ⟨pb, 4, none⟩ (.bool true) = w3 at *
      by_cases hk3 : m2.kn = 2
      · skip
        as_aux_lemma =>
          have hk4 : (m2.kn == 2) = true := by simp [hk3]
          clear hk3
          obtain ⟨pv, -, -, pP⟩ := T3.T.peer HP.out id
          have p1 := pP.c1
          have pf := pP.fz
          clear pP
          obtain ⟨nv, no, nn⟩ := T3.T.node hx2 id
          have n6 := nn.c6
          have nf := nn.fz
          rw [hl2] at n6 nf
          clear nn no
          have A := hid T3
          clear T3
          go_upto_if 30 with fail
          go_cut [31] (fun s wd => Typed wd G2)
          case first =>
            as_aux_lemma =>
              cases hkn : pv.kn
              · rw [hkn] at p1
                clear hkn
                go_wp2_with fail
                go_meet
                case rel =>
                  have TT := (A.out.T.p1 (z := true) HP.out).n6 (x := x) (z := wrap64 (nv.kn + 1)) hx2
                  rw [hl2] at TT
                  exact ⟨TT, A.out.A⟩
              · rw [hkn] at p1
                clear hkn
                go_wp2_with fail
                go_meet
                case rel => exact A.out
          case rest =>
            have T4 := hcut
            clear hcut A p1 pf n6 nf hk4
            obtain ⟨qv, -, -, qP⟩ := T4.T.peer HP.out id
            have q6 := qP.c6
            have q8 := qP.c8
            have qf := qP.fz
            clear qP
            obtain ⟨kv, ko, km⟩ := T4.T.msg HM.out id
            have k2 := km.c2
            have C36 : ∀ q, Hid (Calls Try.prog 36 #[.pointer (some ⟨(G.lay x).nb, 0, none⟩), .pointer (some ⟨pb, 0, none⟩)] ((wc.setCell ⟨pb, 6, none⟩ (.bool true)).drewN q) fun e w' => e = .returned (.tuple #[]) ∧ Typed w' G2) := fun q => by rw [← hl2]; exact c36 ⟨(T4.T.p6 HP.out).drewN q, T4.A⟩ hx2 HP.out
            have A := hid T4
            clear T4 km ko
            go_upto_region 10 with fail
            go_quiet (fail)
            go_upto_if 50 with fail
            go_cut [51] (fun s wd => Typed wd G2)
            case first =>
              as_aux_lemma =>
                go_wp2_with fail
                all_goals
                  first
                    | (refine (C36 _).out.mono ?_
                       rintro e w5 ⟨rfl, T5⟩
                       have A5 := hid T5
                       clear T5
                       go_wp2_with fail
                       go_meet
                       case rel => exact A5.out)
                    | (go_meet
                       case rel => exact ⟨(A.out.T.p6 HP.out).drewN _, A.out.A⟩)
            case rest =>
              have T5 := hcut
              clear hcut A q6 q8 qf k2 C36
              obtain ⟨qv, -, -, qP⟩ := T5.T.peer HP.out id
              have q8 := qP.c8
              have q10 := qP.c10
              have q11 := qP.c11
              have qf := qP.fz
              clear qP
              obtain ⟨kv, ko, km⟩ := T5.T.msg HM.out id
              have k1 := km.c1
              have k2 := km.c2
              have k3 := km.c3
              have k4 := km.c4
              have k7 := km.c7
              obtain ⟨ka, kb, kc, kh, -, -⟩ := ko.ps.shape
              rw [kh] at k7
              have C37 : Hid (Calls Try.prog 37 #[.pointer (some ⟨(G.lay x).nb, 0, none⟩), .string kv.fr, .slice ka kb kc] (((wc.setCell ⟨pb, 8, none⟩ (.int .u64 kv.rd)).setCell ⟨pb, 10, none⟩ (.int .u64 kv.wa)).setCell ⟨pb, 11, none⟩ (.bool kv.su)) fun e w' => Un 5 G2 e w') := by rw [← hl2, ← kh]; exact c37 ⟨((T5.T.p8 HP.out).p10 HP.out).p11 HP.out, T5.A⟩ hx2 ko.ps (by have := ht3.out; omega)
              clear T5 km ko kh
              go_wp2_with fail
              refine C37.out.mono ?_
              rintro e w6 ⟨rfl, G3, L3, T6⟩
              clear C37 q8 q10 q11 qf k1 k2 k3 k4 k7
              have hx3 : x < G3.k := by rw [L3.k]; exact hx2
              have hl3 : G3.lay = G.lay := L3.lay.trans hl2
              have hm3 := hid (L3.up HM.out (by simp) (by simp) (by simp))
              have hp3 := hid (L3.up HP.out (by simp) (by simp) (by simp))
              have C38 : Hid (Calls Try.prog 38 #[.pointer (some ⟨(G.lay x).nb, 0, none⟩), .pointer (some ⟨r, 0, none⟩)] w6 fun e w' => BPost' G3 e w') := by rw [← hl3]; exact c38 T6 hx3 hm3.out
              have LL3 := hid L3
              clear T6 L3
              go_upto_region 15 with fail
              go_cut [89] (fun s wd => ∃ b G4, s = .bool b ∧ Le 0 G3 G4 ∧ Typed wd G4)
              case first =>
                as_aux_lemma =>
                  go_wp2_with fail
                  refine C38.out.mono ?_
                  rintro e w7 ⟨b, G4, rfl, L4, T7⟩
                  have hp4 := hid (L4.up hp3.out (by simp) (by simp) (by simp))
                  obtain ⟨qv, -, -, qP⟩ := T7.T.peer hp4.out id
                  have q13 := qP.c13
                  have q14 := qP.c14
                  have qf := qP.fz
                  clear qP
                  have A := hid (And.intro L4 T7)
                  clear T7 L4 C38
                  cases b
                  · go_wp2_with fail
                    go_meet
                    case rel => exact ⟨_, G4, rfl, A.out⟩
                  · cases h13 : qv.ao
                    · rw [h13] at q13
                      clear h13
                      go_wp2_with fail
                      go_meet
                      case rel => exact ⟨_, G4, rfl, A.out⟩
                    · rw [h13] at q13
                      clear h13
                      go_wp2_with fail
                      go_meet
                      case rel => exact ⟨_, G4, rfl, A.out⟩
              case rest =>
                obtain ⟨b, G4, rfl, L4, T7⟩ := hcut
                clear C38
                have hx4 : x < G4.k := by rw [L4.k]; exact hx3
                have hl4 : G4.lay = G.lay := L4.lay.trans hl3
                have hm4 := hid (L4.up hm3.out (by simp) (by simp) (by simp))
                have hp4 := hid (L4.up hp3.out (by simp) (by simp) (by simp))
                obtain ⟨nv, no, nn⟩ := T7.T.node hx4 id
                have n14 := nn.c14
                have nf := nn.fz
                rw [hl4] at n14 nf
                clear nn no
                have A := hid T7
                have LL4 := hid (LL3.out.trans L4)
                clear T7 L4 LL3
                go_upto_if 89 with fail
                go_cut [90] (fun s wd => Typed wd G4)
                case first =>
                  as_aux_lemma =>
                    cases b
                    · go_wp2_with fail
                      go_meet
                      case rel => exact A.out
                    · go_wp2_with fail
                      go_meet
                      case rel =>
                        have TT := A.out.T.n14 (x := x) (z := true) hx4
                        rw [hl4] at TT
                        exact ⟨TT, A.out.A⟩
                case rest =>
                  have T8 := hcut
                  clear hcut A n14 nf
                  have ht4 : G4.t + 1 ≤ 100000 := by have := LL4.out.t1; have := ht3.out; omega
                  obtain ⟨nv, no, nn⟩ := T8.T.node hx4 id
                  have n7 := nn.c7
                  have nf := nn.fz
                  rw [hl4] at n7 nf
                  have hak0 := no.ak0
                  have hak1 := no.ak1
                  have hak2 : nv.ak ≤ 100000 := by omega
                  obtain ⟨qv, -, -, qP⟩ := T8.T.peer hp4.out id
                  have q2 := qP.c2
                  have qf := qP.fz
                  clear qP
                  have A := hid T8
                  clear T8 nn no
                  go_upto_if 97 with fail
                  go_cut [98] (fun s wd => ∃ G6, Le 1 G4 G6 ∧ Typed wd G6)
                  case first =>
                    as_aux_lemma =>
                      by_cases h0 : qv.as_ = 0
                      · have h1 : (qv.as_ == 0) = true := by simp [h0]
                        clear h0
                        go_wp2_with fail
                        go_meet
                        case rel =>
                          have T9 : TypedE NoE wc G4.tick := A.out.T.to_t (G4.t + 1) (by omega) ht4
                          have TT := T9.n7 (x := x) (z := nv.ak + 1) hx4 (by omega) (by show nv.ak + 1 ≤ ((G4.t + 1 : Nat) : Int); omega)
                          have e : G4.tick.lay = G.lay := hl4
                          rw [e] at TT
                          exact ⟨G4.tick, ⟨rfl, rfl, rfl, by show G4.t ≤ G4.t + 1; omega, Nat.le_refl _, fun _ => .inr (.inr (.inl rfl))⟩, TT, A.out.A⟩
                      · have h1 : (qv.as_ == 0) = false := by simp [h0]
                        clear h0
                        go_wp2_with fail
                        go_meet
                        case rel => exact ⟨G4, (Le.refl G4).mono (by omega), A.out⟩
                  case rest =>
                    obtain ⟨G6, L6, T9⟩ := hcut
                    clear A n7 nf q2 qf hak0 hak1 hak2
                    have hp6 := hid (L6.up hp4.out (by simp) (by simp) (by simp))
                    have hm6 := hid (L6.up hm4.out (by simp) (by simp) (by simp))
                    obtain ⟨qv, -, -, qP⟩ := T9.T.peer hp6.out id
                    have q2 := qP.c2
                    have qf := qP.fz
                    clear qP
                    obtain ⟨kv, ko, km⟩ := T9.T.msg hm6.out id
                    have k2 := km.c2
                    have FIN : Hid (Typed (wc.setCell ⟨pb, 2, none⟩ (.int .u64 kv.rd)) G6) := ⟨T9.T.p2 hp6.out, T9.A⟩
                    have LL6 := hid (LL4.out.trans L6)
                    clear T9 L6 km ko
                    go_wp2_with fail
                    go_meet
                    case rel => exact ⟨G6, LL6.out.mono (by omega), FIN.out⟩
      · skip
        as_aux_lemma =>
          have hk4 : (m2.kn == 2) = false := by simp [hk3]
          by_cases hk5 : m2.kn = 3
          · have hk6 : (m2.kn == 3) = true := by simp [hk5]
            obtain ⟨mv3, mo, mm⟩ := T3.T.msg HM.out id
            have m4 := mm.c4
            obtain ⟨qv, -, -, qP⟩ := T3.T.peer HP.out id
            have q10 := qP.c10
            have q11 := qP.c11
            have qf := qP.fz
            clear qP
            have m3 := mm.c3
            have A := hid T3
            clear hk3 hk5 mm mo T3
            go_upto_if 113 with fail
            go_cut [114] (fun s wd => Typed wd G2)
            case first =>
              as_aux_lemma =>
                cases hsu : mv3.su
                · rw [hsu] at m4
                  clear hsu
                  go_wp2_with fail
                  go_meet
                  case rel => exact A.out
                · rw [hsu] at m4
                  clear hsu
                  go_wp2_with fail
                  go_meet
                  case rel => exact ⟨(A.out.T.p10 HP.out).p11 HP.out, A.out.A⟩
            case rest =>
              have T5 := hcut
              clear hcut A q10 q11 qf m3 m4 hk4 hk6
              obtain ⟨kv, ko, km⟩ := T5.T.msg HM.out id
              have k1 := km.c1
              have k7 := km.c7
              obtain ⟨ka, kb, kc, kh, -, -⟩ := ko.ps.shape
              rw [kh] at k7
              have C37 : Hid (Calls Try.prog 37 #[.pointer (some ⟨(G.lay x).nb, 0, none⟩), .string kv.fr, .slice ka kb kc] wc fun e w' => Un 5 G2 e w') := by rw [← hl2, ← kh]; exact c37 T5 hx2 ko.ps (by have := ht3.out; omega)
              clear T5 km ko kh
              go_wp2_with fail
              refine C37.out.mono ?_
              rintro e w6 ⟨rfl, G3, L3, T6⟩
              have A := hid (And.intro L3 T6)
              clear C37 k1 k7 L3 T6
              go_wp2_with fail
              go_meet
              case rel => exact ⟨G3, A.out.1.mono (by omega), A.out.2⟩
          · have hk6 : (m2.kn == 3) = false := by simp [hk5]
            have A := hid T3
            clear hk3 hk5 T3
            go_wp2_with fail
            go_meet
            case rel => exact ⟨G2, (Le.refl G2).mono (by omega), A.out⟩
    case rest =>
      obtain ⟨G5, L5, T5⟩ := hcut
      have LB := hid (B.out.2.1.trans L5)
      clear mc0 p4 pf B
      have hx5 : x < G5.k := by rw [L5.k]; exact hx2
      have hl5 : G5.lay = G.lay := L5.lay.trans hl2
      have hm5 := hid (L5.up HM.out (by simp) (by simp) (by simp))
      have hp5 := hid (L5.up HP.out (by simp) (by simp) (by simp))
      clear L5
      obtain ⟨nv, no, nn⟩ := T5.T.node hx5 id
      have n0 := nn.c0
      have nf := nn.fz
      rw [hl5] at n0 nf
      clear nn no
      obtain ⟨kv, ko, km⟩ := T5.T.msg hm5.out id
      have k8 := km.c8
      have hans := ko.an
      obtain ⟨ad, nn, cc, ad2, cc2, hka, hkr, hn5, hans1⟩ := hans.rows
      rw [hka] at k8
      have C39 : Hid (Calls Try.prog 39 #[.slice ad nn cc, .string (nm x)] wc.drew fun e w' => ∃ (i : Nat) (f : Bool), e = .returned (.tuple #[.int .i64 i, .bool f]) ∧ (f = true → i < nn) ∧ wc.drew = w') := c39 hn5 (fun h => by
        obtain ⟨b1, b2, e1, e2, e3, e4⟩ := hans1 h
        obtain ⟨o1, j1, arr, rfl, j2⟩ := T5.T.obj e3 (by simp) id
        exact ⟨b1, e1, fun i hi => by
          obtain ⟨t, j3⟩ := j2 i hi
          exact ⟨t, (cell_of j1 i).trans j3⟩⟩)
      have k9 := km.c9
      rw [hkr] at k9
      have A := hid T5
      have HA := hid hans1
      clear T5 km ko hans hans1 hka hkr
      generalize wc = w5 at *
      go_upto_region 24 with fail
      go_cut [5, 6] (fun s5 s6 wd => ∃ (i : Nat) (f : Bool), s5 = .int .i64 i ∧ s6 = .bool f ∧ (f = true → i < nn) ∧ w5.drew = wd)
      case first =>
        as_aux_lemma =>
          go_region_with (go_at_call 39; refine C39.out.mono ?_; rintro e w6 ⟨i, f, rfl, hif, rfl⟩; have HI := hid hif; clear hif)
          all_goals
            go_wp2_with fail
            go_meet
            case rel => exact ⟨i, f, rfl, rfl, HI.out, rfl⟩
      case rest =>
        obtain ⟨i, f, rfl, rfl, hif, rfl⟩ := hcut
        clear C39 k8 n0 nf
        have HI := hid hif
        clear hif
        obtain ⟨nv, no, nn⟩ := A.out.T.node hx5 id
        have n12 := nn.c12
        have nf := nn.fz
        rw [hl5] at n12 nf
        clear nn no
        go_upto_region 25 with fail
        go_cut [7] (fun s7 wd => ∃ b, s7 = .bool b ∧ Typed wd G5)
        case first =>
          as_aux_lemma =>
            cases f
            · clear k9
              go_quiet (fail)
              go_wp2_with fail
              go_meet
              case rel => exact ⟨_, rfl, by first | exact A.out.T.drew.drewN _ | exact A.out.T.drewN _, A.out.A⟩
            · have hi : i < nn := HI.out rfl
              obtain ⟨b1, b2, e1, e2, e3, e4⟩ := HA.out (by omega)
              subst e2
              obtain ⟨o1, j1, arr, rfl, j2⟩ := A.out.T.obj e4 (by simp) id
              obtain ⟨z, j3⟩ := j2 i hi
              have kz : w5.cell? ⟨b2, i, none⟩ = some (.int .u64 z) := (cell_of j1 i).trans j3
              have hi' : (i : Int) < (nn : Int) := by omega
              clear j1 j2 j3 e1 e3 e4
              go_quiet (fail)
              go_wp2_with fail
              go_meet
              case rel => exact ⟨_, rfl, by first | exact A.out.T.drew.drewN _ | exact A.out.T.drewN _, A.out.A⟩
        case rest =>
          obtain ⟨b, rfl, T7⟩ := hcut
          clear k9 n12 nf A HA HI
          have C40 : Hid (Calls Try.prog 40 #[.pointer (some ⟨(G.lay x).nb, 0, none⟩), .pointer (some ⟨pb, 0, none⟩), .bool b] wc fun e w' => e = .returned (.tuple #[]) ∧ Typed w' G5) := by rw [← hl5]; exact c40 T7 hx5 hp5.out
          clear T7
          go_wp2_with fail
          refine C40.out.mono ?_
          rintro e w8 ⟨rfl, T8⟩
          clear C40
          obtain ⟨nv, no, nn⟩ := T8.T.node hx5 id
          have n12 := nn.c12
          have n13 := nn.c13
          have nf := nn.fz
          rw [hl5] at n12 n13 nf
          clear nn no
          obtain ⟨qv, -, -, qP⟩ := T8.T.peer hp5.out id
          have q3 := qP.c3
          have q7 := qP.c7
          have qf := qP.fz
          clear qP
          have A := hid T8
          clear T8
          cases b
          · go_wp2_with fail
            refine bodyPost_ret (results_none rfl _ _ _) rfl ?_
            exact ⟨rfl, G5, LB.out.mono (by omega), A.out⟩
          · have FIN : Hid (∀ q, Typed ((w8.setCell ⟨pb, 7, none⟩ (.bool true)).drewN q) G5) := fun q => ⟨(A.out.T.p7 hp5.out).drewN q, A.out.A⟩
            have FIN2 : Hid (∀ q z, Typed ((((w8.setCell ⟨pb, 7, none⟩ (.bool true)).drewN q).setCell ⟨pb, 3, none⟩ (.int .u64 (G5.rd x))).setCell ⟨(G.lay x).nb, 13, none⟩ (.int .i64 z)) G5) := fun q z => by
              rw [← hl5]; exact ⟨(((A.out.T.p7 hp5.out).drewN q).p3 hp5.out (fun _ => rfl)).n13 hx5, A.out.A⟩
            go_wp2_with fail
            go_quiet (fail)
            go_wp2_with fail
            all_goals
              go_end0
              exact ⟨rfl, G5, LB.out.mono (by omega), by first | exact FIN.out _ | exact FIN2.out _ _⟩
end Go.Proofs.Qxb6002353a
