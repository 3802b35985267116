/-
  SEAT b6002353a: holdsOther, OnesCount64.
-/
import Derived.Test.Qxb6002353aPass
namespace Go.Proofs.Qxb6002353a
open Go.RowKit
set_option linter.unusedVariables false
set_option linter.unusedSimpArgs false

set_option maxHeartbeats 4000000 in
set_option maxRecDepth 100000 in
theorem c34 (z : Int) (w : World) : Calls Try.prog 34 #[.int .u64 z] w fun e w' => ∃ y, e = .returned (.int .i64 y) ∧ w' = w := by
  go_enter Try.func34, Try.ntmps34
  go_upto_region 2 with fail
  go_cut [0] (fun s0 wd => ∃ y, s0 = .int .u64 y ∧ w = wd)
  case first =>
    go_wp2_with fail
    go_meet
    case rel => exact ⟨_, rfl, rfl⟩
  case rest =>
    obtain ⟨y, rfl, rfl⟩ := hcut
    go_upto_region 3 with fail
    go_cut [0] (fun s0 wd => ∃ y, s0 = .int .u64 y ∧ w = wd)
    case first =>
      go_wp2_with fail
      go_meet
      case rel => exact ⟨_, rfl, rfl⟩
    case rest =>
      obtain ⟨y, rfl, rfl⟩ := hcut
      go_upto_region 5 with fail
      go_cut [0] (fun s0 wd => ∃ y, s0 = .int .u64 y ∧ w = wd)
      case first =>
        go_wp2_with fail
        go_meet
        case rel => exact ⟨_, rfl, rfl⟩
      case rest =>
        obtain ⟨y, rfl, rfl⟩ := hcut
        go_wp2_with fail
        go_ret
        exact ⟨_, rfl, rfl⟩

def BPost' (G : Gh) (e : Ending) (w' : World) : Prop := ∃ b G', e = .returned (.bool b) ∧ Le 0 G G' ∧ Typed w' G'

set_option maxHeartbeats 4000000 in
set_option maxRecDepth 100000 in
theorem c38 {w G x mb} (T : Typed w G) (hx : x < G.k) (hm : G.kd mb = kMsg) : Calls Try.prog 38 #[.pointer (some ⟨(G.lay x).nb, 0, none⟩), .pointer (some ⟨mb, 0, none⟩)] w fun e w' => BPost' G e w' := by
  have C33 := hid (c33 T hx)
  clear T
  go_enter Try.func38, Try.ntmps38
  go_wp2_with fail
  refine C33.out.mono ?_
  rintro e w1 ⟨v1, G1, rfl, L1, T1, h1⟩
  have hx1 : x < G1.k := by rw [L1.k]; exact hx
  have hl1 : G1.lay = G.lay := L1.lay
  obtain ⟨v, vo, n⟩ := T1.T.node hx1 id
  obtain ⟨mv, mo, m⟩ := T1.T.msg (L1.up hm (by simp) (by simp) (by simp)) id
  have nc10 := n.c10
  have m5 := m.c5
  have m6 := m.c6
  rw [hl1] at nc10
  obtain ⟨ad, nn, cc, rfl, h5, -⟩ := h1.shape
  have X := hid (And.intro L1 T1)
  clear T1 L1 h1 n vo m mo
  have hw : IntKind.u64.wrap (nn : Int) = (nn : Int) := by simp [IntKind.wrap, IntKind.bits, IntKind.signed]; omega
  by_cases e1 : mv.ho = (nn : Int)
  · rw [e1] at m5
    clear e1
    by_cases e2 : nn = 0
    · subst e2
      go_wp2_with fail
      go_quiet (fail)
      go_wp2_with fail
      go_ret
      exact ⟨_, G1, rfl, X.out.1, X.out.2.T.drewN _, X.out.2.A⟩
    · have e3 : decide (0 < nn) = true := by simp; omega
      clear e2
      go_wp2_with fail
      go_quiet (fail)
      go_wp2_with fail
      go_ret
      exact ⟨_, G1, rfl, X.out.1, X.out.2.T.drewN _, X.out.2.A⟩
  · have e2 : (mv.ho == (nn : Int)) = false := by simp [e1]
    have e3 : (mv.ho != (nn : Int)) = true := by simp [e1]
    have e4 : decide (mv.ho = (nn : Int)) = false := by simp [e1]
    go_wp2_with fail
    go_quiet (fail)
    go_wp2_with fail
    go_ret
    exact ⟨_, G1, rfl, X.out.1, X.out.2.T.drewN _, X.out.2.A⟩
end Go.Proofs.Qxb6002353a
