/-
  SEAT b6002353a: the small functions that touch only plain fields.
-/
import Derived.Test.Qxb6002353aGhost
namespace Go.Proofs.Qxb6002353a
open Go.RowKit
set_option linter.unusedVariables false
set_option linter.unusedSimpArgs false

theorem hid {p : Prop} (h : p) : Hid p := h
theorem kd_ne {G : Gh} {a b : Nat} {κ κ' : Kd} (h1 : G.kd a = κ) (h2 : G.kd b = κ') (h : κ.t ≠ κ'.t) : a ≠ b := fun e => h (by rw [← h1, ← h2, e])
set_option maxHeartbeats 2000000 in
set_option maxRecDepth 100000 in
theorem c26 {w G x} (T : Typed w G) (hx : x < G.k) :
    Calls Try.prog 26 #[.pointer (some ⟨(G.lay x).nb, 0, none⟩)] w fun e w' => e = .returned (.tuple #[]) ∧ Typed w' G := by
  obtain ⟨v, vo, n⟩ := T.T.node hx id
  have A := hid T
  clear T
  have nc22 := n.c22
  have nfz := n.fz
  clear vo n
  have NB := hid (rfl : (G.lay x).nb = (G.lay x).nb)
  --generalize (G.lay x).nb = nb at *
  go_enter Try.func26, Try.ntmps26
  go_wp2_with fail
  all_goals
    first | go_end0 | refine bodyPost_ret (results_none rfl _ _ _) rfl ?_
    refine ⟨rfl, ?_, A.out.A⟩
    repeat (first | exact A.out.T | refine TypedE.drewN ?_ _ | refine TypedE.drew ?_ | refine TypedE.n22 ?_ hx)
set_option maxHeartbeats 2000000 in
set_option maxRecDepth 100000 in
theorem c36 {w G x b s} (T : Typed w G) (hx : x < G.k) (hb : G.kd b = kPeer x s) :
    Calls Try.prog 36 #[.pointer (some ⟨(G.lay x).nb, 0, none⟩), .pointer (some ⟨b, 0, none⟩)] w fun e w' => e = .returned (.tuple #[]) ∧ Typed w' G := by
  obtain ⟨v, vo, n⟩ := T.T.node hx id
  obtain ⟨p, hi, ha, P⟩ := T.T.peer hb id
  have ne := kd_ne (T.T.nb x hx) hb (by simp)
  have ne2 := ne.symm
  have A := hid T
  clear T
  have nfz := n.fz
  have pc5 := P.c5
  have pc12 := P.c12
  have pfz := P.fz
  clear vo n ha hi P
  have NB := hid (rfl : (G.lay x).nb = (G.lay x).nb)
  --generalize (G.lay x).nb = nb at *
  go_enter Try.func36, Try.ntmps36
  go_wp2_with fail
  all_goals
    first | go_end0 | refine bodyPost_ret (results_none rfl _ _ _) rfl ?_
    refine ⟨rfl, ?_, A.out.A⟩
    repeat (first | exact A.out.T | refine TypedE.drewN ?_ _ | refine TypedE.drew ?_ | refine TypedE.p5 ?_ hb | refine TypedE.p12 ?_ hb)
set_option maxHeartbeats 2000000 in
set_option maxRecDepth 100000 in
theorem c45 {w G x b s} (T : Typed w G) (hx : x < G.k) (hb : G.kd b = kPeer x s) :
    Calls Try.prog 45 #[.pointer (some ⟨(G.lay x).nb, 0, none⟩), .pointer (some ⟨b, 0, none⟩)] w fun e w' => e = .returned (.tuple #[]) ∧ Typed w' G := by
  obtain ⟨v, vo, n⟩ := T.T.node hx id
  obtain ⟨p, hi, ha, P⟩ := T.T.peer hb id
  have ne := kd_ne (T.T.nb x hx) hb (by simp)
  have ne2 := ne.symm
  have A := hid T
  clear T
  have nc16 := n.c16
  have nc17 := n.c17
  have nfz := n.fz
  have pc7 := P.c7
  have pc12 := P.c12
  have pc13 := P.c13
  have pc14 := P.c14
  have pfz := P.fz
  clear vo n ha hi P
  have NB := hid (rfl : (G.lay x).nb = (G.lay x).nb)
  --generalize (G.lay x).nb = nb at *
  go_enter Try.func45, Try.ntmps45
  go_wp2_with fail
  all_goals
    first | go_end0 | refine bodyPost_ret (results_none rfl _ _ _) rfl ?_
    refine ⟨rfl, ?_, A.out.A⟩
    repeat (first | exact A.out.T | refine TypedE.drewN ?_ _ | refine TypedE.drew ?_ | refine TypedE.n16 ?_ hx | refine TypedE.n17 ?_ hx | refine TypedE.p12 ?_ hb | refine TypedE.p13 ?_ hb | refine TypedE.p14 ?_ hb)
set_option maxHeartbeats 2000000 in
set_option maxRecDepth 100000 in
theorem c40 {w G x b s an} (T : Typed w G) (hx : x < G.k) (hb : G.kd b = kPeer x s) :
    Calls Try.prog 40 #[.pointer (some ⟨(G.lay x).nb, 0, none⟩), .pointer (some ⟨b, 0, none⟩), .bool an] w fun e w' => e = .returned (.tuple #[]) ∧ Typed w' G := by
  obtain ⟨v, vo, n⟩ := T.T.node hx id
  obtain ⟨p, hi, ha, P⟩ := T.T.peer hb id
  have ne := kd_ne (T.T.nb x hx) hb (by simp)
  have ne2 := ne.symm
  have A := hid T
  clear T
  have nc18 := n.c18
  have nc19 := n.c19
  have nc20 := n.c20
  have nc21 := n.c21
  have nfz := n.fz
  have pc12 := P.c12
  have pc13 := P.c13
  have pfz := P.fz
  clear vo n ha hi P
  have NB := hid (rfl : (G.lay x).nb = (G.lay x).nb)
  --generalize (G.lay x).nb = nb at *
  go_enter Try.func40, Try.ntmps40
  go_wp2_with fail
  all_goals (try (go_region; go_wp2_with fail))
  all_goals
    first | go_end0 | refine bodyPost_ret (results_none rfl _ _ _) rfl ?_
    refine ⟨rfl, ?_, A.out.A⟩
    repeat (first | exact A.out.T | refine TypedE.drewN ?_ _ | refine TypedE.drew ?_ | refine TypedE.n18 ?_ hx | refine TypedE.n20 ?_ hx | refine TypedE.n21 ?_ hx | refine TypedE.p12 ?_ hb)
theorem float_run (op : BinOp) (hop : op = .mul ∨ op = .quo) (t : TypeId) (x y : Nat) (w : World) : ∃ r q, (binOp op t (.float .f64 x) (.float .f64 y)).run Try.prog w = .ok (.float .f64 r) (w.drewN q) := by
  rcases hop with rfl | rfl
  · cases h : FloatKind.f64.format.mul x y with
    | some r => exact ⟨r, 0, by simp [binOp, Op.floatArith, h]; rfl⟩
    | none => exact ⟨(Question.nanBits .f64 x y).cut (w.tape w.drawn (Question.nanBits .f64 x y)), 1, by simp [binOp, Op.floatArith, h, Result.andThen, Question.forced]; rfl⟩
  · cases h : FloatKind.f64.format.div x y with
    | some r => exact ⟨r, 0, by simp [binOp, Op.floatArith, h]; rfl⟩
    | none => exact ⟨(Question.nanBits .f64 x y).cut (w.tape w.drawn (Question.nanBits .f64 x y)), 1, by simp [binOp, Op.floatArith, h, Result.andThen, Question.forced]; rfl⟩
theorem float_all (op : BinOp) (hop : op = .mul ∨ op = .quo) : ∃ R Q : TypeId → Nat → Nat → World → Nat, ∀ t x y w, (binOp op t (.float .f64 x) (.float .f64 y)).run Try.prog w = .ok (.float .f64 (R t x y w)) (w.drewN (Q t x y w)) :=
  ⟨fun t x y w => Classical.choose (float_run op hop t x y w), fun t x y w => Classical.choose (Classical.choose_spec (float_run op hop t x y w)), fun t x y w => Classical.choose_spec (Classical.choose_spec (float_run op hop t x y w))⟩
set_option maxHeartbeats 2000000 in
set_option maxRecDepth 100000 in
theorem c46 (w : World) (m e : Int) : Calls Try.prog 46 #[.int .u64 m, .int .u64 e] w fun r w' => ∃ z q, r = .returned (.int .u64 z) ∧ w' = w.drewN q := by
  by_cases h0 : m = 0
  · subst h0
    go_enter Try.func46, Try.ntmps46
    go_wp2_with fail
    go_ret
    exact ⟨_, 0, rfl, rfl⟩
  · have h0' : (m == 0) = false := by simpa using h0
    obtain ⟨Rm, Qm, hm⟩ := float_all .mul (.inl rfl)
    obtain ⟨Rq, Qq, hq⟩ := float_all .quo (.inr rfl)
    go_enter Try.func46, Try.ntmps46
    go_wp2_with fail
    go_loopg [7, 8] 1024 (fun k i c wr => (∃ q, wr = w.drewN q) ∧ ∃ n : Nat, n + k = 1024 ∧ i = .int .u64 n ∧ ∃ r, c = .float .f64 r)
    case atStart => exact ⟨⟨_, rfl⟩, 0, rfl, rfl, _, rfl⟩
    case round =>
      obtain ⟨⟨q, rfl⟩, n, hn, rfl, r, rfl⟩ := hrel
      go_wp2_with fail
      · have hlt : (n : Int) < 1024 := by assumption
        go_roundg (gk - 1)
        case measure => omega
        case rel => exact ⟨⟨_, rfl⟩, n + 1, by omega, rfl, _, rfl⟩
      all_goals
        go_ret
        exact ⟨_, _, rfl, rfl⟩
end Go.Proofs.Qxb6002353a
