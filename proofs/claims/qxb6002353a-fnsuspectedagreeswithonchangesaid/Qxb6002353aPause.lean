/-
  SEAT b6002353a: endPause.
-/
import Derived.Test.Qxb6002353aReads
import Derived.Deep.CutRange
import Derived.Deep.DeepCutAuto
namespace Go.Proofs.Qxb6002353a
open Go.RowKit
set_option linter.unusedVariables false
set_option linter.unusedSimpArgs false

def UnT (G : Gh) (e : Ending) (w' : World) : Prop := e = .returned (.tuple #[]) ∧ Typed w' G
set_option maxHeartbeats 2000000 in
set_option maxRecDepth 100000 in
theorem c30 {w G x} (T : Typed w G) (hx : x < G.k) : Calls Try.prog 30 #[.pointer (some ⟨(G.lay x).nb, 0, none⟩)] w fun e w' => UnT G e w' := by
  obtain ⟨v, vo, n⟩ := T.T.node hx id
  obtain ⟨bb, nn, c, hby, h1, h2, h4⟩ := T.T.par hx vo.by_ (fun _ _ => id)
  have BY := hid vo.by_
  have A0 := hid T
  have nc5 := n.c5
  rw [hby] at nc5
  have BB := hid hby
  clear n vo T h4 hby
  go_enter Try.func30, Try.ntmps30
  go_wp2_with fail
  go_loopg [12] nn (fun k i wr => Typed wr G ∧ ∃ j : Nat, j + k = nn ∧ i = .int .i64 j)
  case atStart => exact ⟨A0.out, 0, by omega, rfl⟩
  case round =>
    clear nc5
    obtain ⟨T, j, hj, rfl⟩ := hrel
    have A := hid T
    obtain ⟨b1, n1, c1, e1, -, -, CELL⟩ := T.T.par hx BY.out (fun _ _ => id)
    rw [BB.out] at e1
    obtain ⟨rfl, rfl, rfl⟩ : b1 = bb ∧ n1 = nn ∧ c1 = c := by cases e1; exact ⟨rfl, rfl, rfl⟩
    clear e1
    by_cases hlt : j < n1
    · have hlt' : (j : Int) < (n1 : Int) := by omega
      obtain ⟨pb, s, hc, hk⟩ := CELL j hlt
      obtain ⟨pv, -, -, P⟩ := T.T.peer hk id
      have pc4 := P.c4
      have pc9 := P.c9
      have pc12 := P.c12
      have pfz := P.fz
      have J := hid hj
      have NE := hid (kd_ne (T.T.nb x hx) hk (by simp))
      clear P hj hlt CELL T
      have HK := hid hk
      clear hk
      go_upto_if 19 with fail
      go_cut [3] (fun s3 wc => s3 = .pointer (some ⟨pb, 0, none⟩) ∧ Typed wc G)
      case first =>
        go_wp2_with fail
        all_goals
          go_meet
          case rel =>
            refine ⟨rfl, ?_, A.out.A⟩
            repeat (first | exact A.out.T | refine TypedE.drewN ?_ _ | refine TypedE.drew ?_ | refine TypedE.n23 ?_ hx | refine TypedE.n22 ?_ hx | refine TypedE.n19 ?_ hx | refine TypedE.n20 ?_ hx | refine TypedE.p4 ?_ HK.out | refine TypedE.p5 ?_ HK.out | refine TypedE.p6 ?_ HK.out | refine TypedE.p7 ?_ HK.out | refine TypedE.p9 ?_ HK.out | refine TypedE.p12 ?_ HK.out)
      case rest =>
        obtain ⟨rfl, T⟩ := hcut
        clear A pc4 pc9 pc12 pfz hc
        have A := hid T
        obtain ⟨pv, -, -, P⟩ := T.T.peer HK.out id
        obtain ⟨v, vo, n⟩ := T.T.node hx id
        have ne := NE.out
        have ne2 := ne.symm
        have pc4 := P.c4
        have pc5 := P.c5
        have pc6 := P.c6
        have pc7 := P.c7
        have pfz := P.fz
        have nc22 := n.c22
        have nc23 := n.c23
        clear P T vo n
        go_upto_region 7 with fail
        go_cut [3, 62] (fun s3 s62 wd => s3 = .pointer (some ⟨pb, 0, none⟩) ∧ (∃ b, s62 = .bool b) ∧ wd = wc)
        case first =>
          go_wp2_with fail
          all_goals
            go_meet
            case rel => exact ⟨rfl, ⟨_, rfl⟩, rfl⟩
        case rest =>
          obtain ⟨rfl, ⟨b, rfl⟩, rfl⟩ := hcut
          clear nc22 nc23 pc5 pc6 pc7
          go_upto_if 62 with fail
          go_cut [3] (fun s3 wd => s3 = .pointer (some ⟨pb, 0, none⟩) ∧ Typed wd G)
          case first =>
            cases b
            · go_wp2_with fail
              go_meet
              case rel => exact ⟨rfl, A.out⟩
            · go_wp2_with fail
              refine (c45 A.out hx HK.out).mono ?_
              rintro e w' ⟨rfl, T2⟩
              have A2 := hid T2
              clear T2
              go_wp2_with fail
              go_meet
              case rel => exact ⟨rfl, A2.out⟩
          case rest =>
            obtain ⟨rfl, T⟩ := hcut
            clear A pc4 pfz
            have A := hid T
            obtain ⟨pv, -, -, P⟩ := T.T.peer HK.out id
            have pc4 := P.c4
            have pc5 := P.c5
            have pc6 := P.c6
            have pc7 := P.c7
            have pfz := P.fz
            clear P T
            go_wp2_with fail
            go_roundg (gk - 1)
            case measure => have := J.out; omega
            case rel =>
              refine ⟨⟨?_, A.out.A⟩, j + 1, by have := J.out; omega, rfl⟩
              repeat (first | exact A.out.T | refine TypedE.drewN ?_ _ | refine TypedE.drew ?_ | refine TypedE.n23 ?_ hx | refine TypedE.n22 ?_ hx | refine TypedE.n19 ?_ hx | refine TypedE.n20 ?_ hx | refine TypedE.p4 ?_ HK.out | refine TypedE.p5 ?_ HK.out | refine TypedE.p6 ?_ HK.out | refine TypedE.p7 ?_ HK.out | refine TypedE.p9 ?_ HK.out | refine TypedE.p12 ?_ HK.out)
    · have hge : (n1 : Int) ≤ (j : Int) := by omega
      obtain ⟨v, vo, n⟩ := T.T.node hx id
      have nc22 := n.c22
      have nc23 := n.c23
      have nc16 := n.c16
      have nc17 := n.c17
      have nc18 := n.c18
      have nc19 := n.c19
      have nfz := n.fz
      clear CELL T vo n hj hlt
      go_upto_region 14 with fail
      go_cut [] (fun wd => Typed wd G)
      case first =>
        go_region_with (go_at_call 46; refine (c46 _ _ _).mono ?_; rintro e w' ⟨z, q, rfl, rfl⟩)
        all_goals
          go_wp2_with fail
          go_meet
          case rel =>
            refine ⟨?_, A.out.A⟩
            repeat (first | exact A.out.T | refine TypedE.drewN ?_ _ | refine TypedE.drew ?_ | refine TypedE.n23 ?_ hx | refine TypedE.n22 ?_ hx | refine TypedE.n19 ?_ hx | refine TypedE.n20 ?_ hx | refine TypedE.p4 ?_ HK.out | refine TypedE.p5 ?_ HK.out | refine TypedE.p6 ?_ HK.out | refine TypedE.p7 ?_ HK.out | refine TypedE.p9 ?_ HK.out | refine TypedE.p12 ?_ HK.out)
      case rest =>
        have T := hcut
        clear hcut A nc22 nc23 nc16 nc17 nc18 nc19 nfz
        have A := hid T
        obtain ⟨v, vo, n⟩ := T.T.node hx id
        have nc18 := n.c18
        have nc19 := n.c19
        have nc20 := n.c20
        have nfz := n.fz
        clear T vo n
        go_wp2_with fail
        refine (c47 A.out hx).mono ?_
        rintro e w' ⟨y, z, q, rfl, rfl⟩
        go_wp2_with fail
        all_goals
          go_end0
          refine ⟨rfl, ?_, A.out.A⟩
          repeat (first | exact A.out.T | refine TypedE.drewN ?_ _ | refine TypedE.drew ?_ | refine TypedE.n23 ?_ hx | refine TypedE.n22 ?_ hx | refine TypedE.n19 ?_ hx | refine TypedE.n20 ?_ hx | refine TypedE.p4 ?_ HK.out | refine TypedE.p5 ?_ HK.out | refine TypedE.p6 ?_ HK.out | refine TypedE.p7 ?_ HK.out | refine TypedE.p9 ?_ HK.out | refine TypedE.p12 ?_ HK.out)
end Go.Proofs.Qxb6002353a
