/-
  SEAT b6002353a: the functions that only read a node.
-/
import Derived.Test.Qxb6002353aSmall
import Derived.Test.Qxb6002353aMaps
namespace Go.Proofs.Qxb6002353a
open Go.RowKit
set_option linter.unusedVariables false
set_option linter.unusedSimpArgs false


def RdI (k : IntKind) (w : World) (e : Ending) (w' : World) : Prop := ∃ z q, e = .returned (.int k z) ∧ w' = w.drewN q
theorem RdI.mk {k w z} (q : Nat) : RdI k w (.returned (.int k z)) (w.drewN q) := ⟨z, q, rfl, rfl⟩
theorem RdI.mk0 {k w z} : RdI k w (.returned (.int k z)) w := ⟨z, 0, rfl, rfl⟩
theorem RdI.mk1 {k w z} : RdI k w (.returned (.int k z)) w.drew := ⟨z, 1, rfl, rfl⟩
def Rd2 (w : World) (e : Ending) (w' : World) : Prop := ∃ y z q, e = .returned (.tuple #[.int .u64 y, .int .u64 z]) ∧ w' = w.drewN q
theorem Rd2.mk {w y z} (q : Nat) : Rd2 w (.returned (.tuple #[.int .u64 y, .int .u64 z])) (w.drewN q) := ⟨y, z, q, rfl, rfl⟩

/-- the peers in their order: what the row holds -/
theorem TypedE.par {E w G x v} (T : TypedE E w G) (hx : x < G.k) (h : ByOk G x v) (hE : ∀ b, (G.kd b).t = 8 → ¬ E b) : ∃ b n c, v = .slice (some ⟨b, 0, none⟩) n c ∧ n ≤ c ∧ n ≤ 5 ∧ ∀ i, i < n → ∃ p s, w.cell? ⟨b, i, none⟩ = some (.pointer (some ⟨p, 0, none⟩)) ∧ G.kd p = kPeer x s := by
  obtain ⟨b, n, n', c, h1, h2, h3, h4, h5⟩ := h
  obtain ⟨o, k1, arr, rfl, k2, k3⟩ := T.obj h2 (by simp) (hE b (by rw [h2]))
  have := T.b5 x hx
  refine ⟨b, n, c, h1, by omega, by omega, fun i hi => ?_⟩
  obtain ⟨p, s, j1, j2⟩ := k3 i (by show i < n'; omega)
  exact ⟨p, s, by rw [cell_of k1]; exact j1, j2⟩
theorem field66 (a b : Value) (w : World) : (Instr.field 66 (.agg #[a, b]) 1).run Try.prog w = .ok b w := by kernel_rfl
set_option maxHeartbeats 2000000 in
set_option maxRecDepth 100000 in
theorem c31 {w G x} (T : Typed w G) (hx : x < G.k) :
    Calls Try.prog 31 #[.pointer (some ⟨(G.lay x).nb, 0, none⟩)] w fun e w' => RdI .i64 w e w' := by
  obtain ⟨v, vo, n⟩ := T.T.node hx id
  have A := hid T
  have VO := hid vo
  clear T vo
  have nc1 := n.c1
  have nc2 := n.c2
  have nc6 := n.c6
  have nfz := n.fz
  clear n
  go_enter Try.func31, Try.ntmps31
  go_wp2_with fail
  all_goals (try (go_region; go_wp2_with fail))
  all_goals
    go_ret
    first | exact RdI.mk0 | exact RdI.mk1
set_option maxHeartbeats 2000000 in
set_option maxRecDepth 100000 in
theorem c70 {w G x} (T : Typed w G) (hx : x < G.k) :
    Calls Try.prog 70 #[.pointer (some ⟨(G.lay x).nb, 0, none⟩)] w fun e w' => RdI .u64 w e w' := by
  obtain ⟨v, vo, n⟩ := T.T.node hx id
  have A := hid T
  have VO := hid vo
  clear T vo
  have nc16 := n.c16
  have nfz := n.fz
  clear n
  go_enter Try.func70, Try.ntmps70
  go_wp2_with fail
  refine (c46 _ _ _).mono ?_
  rintro e w' ⟨z, q, rfl, rfl⟩
  go_wp2_with fail
  go_ret
  exact RdI.mk _
set_option maxHeartbeats 2000000 in
set_option maxRecDepth 100000 in
theorem c47 {w G x} (T : Typed w G) (hx : x < G.k) :
    Calls Try.prog 47 #[.pointer (some ⟨(G.lay x).nb, 0, none⟩)] w fun e w' => Rd2 w e w' := by
  obtain ⟨v, vo, n⟩ := T.T.node hx id
  have A := hid T
  have VO := hid vo
  clear T vo
  have nc5 := n.c5
  have nc8 := n.c8
  have nfz := n.fz
  clear n
  obtain ⟨bb, n, c, hby, h1, h2, h4⟩ := A.out.T.par hx VO.out.by_ (fun _ _ => id)
  rw [hby] at nc5
  have CELL := hid h4
  clear h4 hby
  have f66 := field66
  go_enter Try.func47, Try.ntmps47
  go_wp2_with fail
  go_loopg [2, 3, 11] n (fun k y z i wr => (∃ q, wr = w.drewN q) ∧ ∃ j : Nat, j + k = n ∧ i = .int .i64 j ∧ (∃ a, y = .int .u64 a) ∧ ∃ a, z = .int .u64 a)
  case atStart => exact ⟨⟨0, rfl⟩, 0, by omega, rfl, ⟨_, rfl⟩, _, rfl⟩
  case round =>
    obtain ⟨⟨q, rfl⟩, j, hj, rfl, ⟨y, rfl⟩, z, rfl⟩ := hrel
    by_cases hlt : j < n
    · have hlt' : (j : Int) < (n : Int) := by omega
      obtain ⟨pb, s, hc, hk⟩ := CELL.out j hlt
      obtain ⟨pv, -, -, P⟩ := A.out.T.peer hk id
      obtain ⟨tg, su, ok, look, -, -, -⟩ := look_qm A.out.T hx id s
      have ne := (kd_ne (A.out.T.nb x hx) hk (by simp))
      have pc0 := P.c0
      have pc10 := P.c10
      have pc11 := P.c11
      clear P hk
      have J := hid hj
      clear hj hlt
      by_cases h0 : pv.wa = 0
      · rw [h0] at pc10
        go_wp2_with fail
        go_quiet (fail)
        go_wp2_with fail
        go_roundg (gk - 1)
        case measure => have := J.out; omega
        case rel => exact ⟨⟨_, rfl⟩, j + 1, by have := J.out; omega, rfl, ⟨_, rfl⟩, _, rfl⟩
      · have h0' : (pv.wa == 0) = false := by simpa using h0
        go_wp2_with fail
        go_quiet (fail)
        go_wp2_with fail
        all_goals
          go_roundg (gk - 1)
          case measure => have := J.out; omega
          case rel => exact ⟨⟨_, rfl⟩, j + 1, by have := J.out; omega, rfl, ⟨_, rfl⟩, _, rfl⟩
    · have hge : (n : Int) ≤ (j : Int) := by omega
      go_wp2_with fail
      go_ret2
      exact Rd2.mk _
set_option maxHeartbeats 2000000 in
set_option maxRecDepth 100000 in
theorem c48 {w G x} (T : Typed w G) (hx : x < G.k) :
    Calls Try.prog 48 #[.pointer (some ⟨(G.lay x).nb, 0, none⟩)] w fun e w' => RdI .u64 w e w' := by
  obtain ⟨v, vo, n⟩ := T.T.node hx id
  have A := hid T
  have VO := hid vo
  clear T vo
  have nc19 := n.c19
  have nc23 := n.c23
  have nfz := n.fz
  clear n
  go_enter Try.func48, Try.ntmps48
  go_wp2_with fail
  refine (c47 A.out hx).mono ?_
  rintro e w' ⟨y, z, q, rfl, rfl⟩
  go_wp2_with fail
  all_goals
    refine (c70 (w := w.drewN q) ⟨A.out.T.drewN q, A.out.A⟩ hx).mono ?_
    rintro e w' ⟨u, q2, rfl, rfl⟩
    go_wp2_with fail
    all_goals
      go_ret
      first | exact RdI.mk _ | exact RdI.mk0
end Go.Proofs.Qxb6002353a
