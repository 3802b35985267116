/-
  SEAT b6002353a: close.
-/
import Derived.Test.Qxb6002353aSet
namespace Go.Proofs.Qxb6002353a
open Go.RowKit
set_option linter.unusedVariables false
set_option linter.unusedSimpArgs false

/-- a row of peers that is gone through -/
def RowOk (G : Gh) (x b n c : Nat) : Prop := ∃ n', G.kd b = kPar x n' c ∧ n ≤ n' ∧ n' ≤ c
theorem RowOk.le {k x b n c} {G G' : Gh} (h : RowOk G x b n c) (E : Le k G G') : RowOk G' x b n c := by
  obtain ⟨n', h1, h2, h3⟩ := h
  rcases E.kd b with h | h | h
  · rw [h1] at h; exact absurd h (by simp)
  · rw [h1] at h; rcases h with h | h <;> exact absurd h (by simp)
  · rcases h with h | ⟨x', m, m', c', e1, e2, e3, e4⟩
    · exact ⟨n', by rw [← h, h1], h2, h3⟩
    · rw [h1] at e1
      simp only [Kd.mk.injEq] at e1
      obtain ⟨_, rfl, rfl, rfl, _⟩ := e1
      exact ⟨m', e2, by omega, e4⟩
theorem TypedE.by_row {E w G x v} (T : TypedE E w G) (hx : x < G.k) (h : ByOk G x v) : ∃ b n c, v = .slice (some ⟨b, 0, none⟩) n c ∧ n ≤ c ∧ n ≤ 5 ∧ RowOk G x b n c := by
  obtain ⟨b, n, n', c, h1, h2, h3, h4, h5⟩ := h
  have := T.b5 x hx
  exact ⟨b, n, c, h1, by omega, by omega, n', h2, h3, h4⟩
theorem RowOk.cell {w G x b n c} (T : Typed0 w G) (h : RowOk G x b n c) {i : Nat} (hi : i < n) : ∃ p s, w.cell? ⟨b, i, none⟩ = some (.pointer (some ⟨p, 0, none⟩)) ∧ G.kd p = kPeer x s := by
  obtain ⟨n', h1, h2, h3⟩ := h
  obtain ⟨o, k1, arr, rfl, k2, k3⟩ := T.obj h1 (by simp) id
  obtain ⟨p, s, j1, j2⟩ := k3 i (by show i < n'; omega)
  exact ⟨p, s, by rw [cell_of k1]; exact j1, j2⟩

set_option maxHeartbeats 4000000 in
set_option maxRecDepth 100000 in
theorem c32 {w G x} (T : Typed w G) (hx : x < G.k) (ht : G.t + 5 ≤ 100000) : Calls Try.prog 32 #[.pointer (some ⟨(G.lay x).nb, 0, none⟩)] w fun e w' => Un 5 G e w' := by
  obtain ⟨v, vo, n⟩ := T.T.node hx id
  obtain ⟨bb, nn, c, hby, hnc, hn5, hrow⟩ := T.T.by_row hx vo.by_
  have nc5 := n.c5
  rw [hby] at nc5
  have A0 := hid T
  have ROW := hid hrow
  have HT := hid ht
  clear n vo T hrow hby ht
  go_enter Try.func32, Try.ntmps32
  go_wp2_with fail
  refine (c48 A0.out hx).mono ?_
  rintro e w' ⟨z, q, rfl, rfl⟩
  go_wp2_with fail
  go_loopg [14] nn (fun k i wr => ∃ j : Nat, j + k = nn ∧ i = .int .i64 j ∧ ∃ G1, Le j G G1 ∧ Typed wr G1)
  case atStart => exact ⟨0, by omega, rfl, G, Le.refl G, A0.out.T.drewN q, A0.out.A⟩
  case round =>
    clear nc5
    obtain ⟨j, hj, rfl, G1, L1, T⟩ := hrel
    have hx1 : x < G1.k := by rw [L1.k]; exact hx
    have hl1 := L1.lay
    have A := hid T
    have J := hid hj
    have LL := hid L1
    by_cases hlt : j < nn
    · have hlt' : (j : Int) < (nn : Int) := by omega
      obtain ⟨pb, s, hc, hk⟩ := (ROW.out.le L1).cell T.T hlt
      obtain ⟨pv, hsi, han, P⟩ := T.T.peer hk id
      obtain ⟨v1, vo1, n1⟩ := T.T.node hx1 id
      have ne := kd_ne (T.T.nb x hx1) hk (by simp)
      have HSI := hid hsi
      have HAN := hid han
      have HK := hid hk
      have pc1 := P.c1
      have pc3 := P.c3
      have pc9 := P.c9
      have nc12 := n1.c12
      rw [hl1] at nc12 ne
      clear P n1 vo1 hj T hk hsi han L1
      have f66 := field66
      go_upto_region 4 with fail
      go_cut [4, 41] (fun s4 s41 wd => s4 = .pointer (some ⟨pb, 0, none⟩) ∧ ∃ b, s41 = .bool b ∧ Typed wd G1 ∧ (b = false → s ≠ nm x))
      case first =>
        by_cases h1 : pv.kn = false
        · rw [h1] at pc1
          go_quiet (fail)
          go_wp2_with fail
          go_meet
          case rel => exact ⟨rfl, _, rfl, ⟨A.out.T.drewN _, A.out.A⟩, fun h => by cases h⟩
        · have h1' : pv.kn = true := by simpa using h1
          rw [h1'] at pc1
          by_cases h2 : pv.an = G1.rd x
          · have h2' : (pv.an == G1.rd x) = true := by simpa using h2
            go_quiet (fail)
            go_wp2_with fail
            go_meet
            case rel => exact ⟨rfl, _, rfl, ⟨A.out.T.drewN _, A.out.A⟩, fun h => by cases h⟩
          · have h2' : (pv.an == G1.rd x) = false := by simpa using h2
            by_cases h3 : pv.si ≤ z
            · go_quiet (fail)
              go_wp2_with fail
              go_meet
              case rel => exact ⟨rfl, _, rfl, ⟨A.out.T.drewN _, A.out.A⟩, fun h => by first | cases h | simp [h3] at h⟩
            · have h3' : decide (pv.si ≤ z) = false := by simpa using h3
              go_quiet (fail)
              go_wp2_with fail
              go_meet
              case rel => exact ⟨rfl, _, rfl, ⟨A.out.T.drewN _, A.out.A⟩, fun _ e => h2 (HAN.out e)⟩
      case rest =>
        obtain ⟨rfl, b, rfl, T, hb⟩ := hcut
        clear A pc1 pc3 pc9 nc12 hc
        have A := hid T
        cases b with
        | true =>
          clear T
          go_wp2_with fail
          go_roundg (gk - 1)
          case measure => have := J.out; omega
          case rel => exact ⟨j + 1, by have := J.out; omega, rfl, G1, LL.out.mono (by omega), A.out⟩
        | false =>
          have HNX := hid (hb rfl)
          obtain ⟨tg, su, ok, -, look, hq, htg⟩ := look_qmW T.T hx1 id s
          have look1 : (Instr.lookup 61 (.map (some (G1.lay x).qm)) (.string s) true).run Try.prog wc.drew = .ok (.tuple #[.agg #[.int .u64 tg, .bool su], .bool ok]) wc.drew := look _ rfl
          have look2 : (Instr.lookup 61 (.map (some (G1.lay x).qm)) (.string s) true).run Try.prog (wc.alloc (.cells #[.int .u64 0, .bool false] 66)).drew = .ok (.tuple #[.agg #[.int .u64 tg, .bool su], .bool ok]) (wc.alloc (.cells #[.int .u64 0, .bool false] 66)).drew := look _ (alloc_lt _ _ (T.T.lt (T.T.qm x hx1) (by simp)))
          have lt1 : (G1.lay x).nb < wc.heap.size := T.T.lt (T.T.nb x hx1) (by simp)
          have lt2 : pb < wc.heap.size := T.T.lt HK.out (by simp)
          obtain ⟨pv, -, -, P⟩ := T.T.peer HK.out id
          obtain ⟨v1, vo1, n1⟩ := T.T.node hx1 id
          have pc0 := P.c0
          have nc8 := n1.c8
          rw [hl1] at nc8 look1 look2 lt1
          clear P n1 vo1 look hq T hb
          have T2 : Typed ((wc.alloc (.cells #[.int .u64 tg, .bool su] 66)).drew) (G1.put wc.heap.size kAny) := ⟨(A.out.T.alloc kAny trivial ⟨by simp, by simp, by simp, by simp, by simp⟩).drew, A.out.A⟩
          have L2 : Le 0 G1 (G1.put wc.heap.size kAny) := Le.put _ (by rw [A.out.T.fr _ (Nat.le_refl _)])
          have TT := hid T2
          have L22 := hid L2
          have HK2 := hid (L2.up HK.out (by simp) (by simp) (by simp))
          clear T2 L2
          go_upto_region 5 with fail
          go_cut [4, 5, 6] (fun s4 s5 s6 wd => s4 = .pointer (some ⟨pb, 0, none⟩) ∧ s5 = .pointer (some ⟨wc.heap.size, 0, none⟩) ∧ s6 = .bool ok ∧ (wc.alloc (.cells #[.int .u64 tg, .bool su] 66)).drew = wd)
          case first =>
            go_region
            all_goals
              go_wp2_with fail
              go_meet
              case rel => exact ⟨rfl, rfl, rfl, rfl⟩
          case rest =>
            obtain ⟨rfl, rfl, rfl, rfl⟩ := hcut
            clear look1 look2 nc8 pc0
            have bk : (G1.put wc.heap.size kAny).kd wc.heap.size = kAny := Gh.put_at _ _ _
            have b0 : ((wc.alloc (.cells #[.int .u64 tg, .bool su] 66)).drew).heap[wc.heap.size]? = some (.cells #[.int .u64 tg, .bool su] 66 (0, 0)) := (MapKept.heap_alloc wc _).1
            have bc0 : ((wc.alloc (.cells #[.int .u64 tg, .bool su] 66)).drew).cell? ⟨wc.heap.size, 0, none⟩ = some (.int .u64 tg) := (cell_of b0 _).trans rfl
            have bc1 : ((wc.alloc (.cells #[.int .u64 tg, .bool su] 66)).drew).cell? ⟨wc.heap.size, 1, none⟩ = some (.bool su) := (cell_of b0 _).trans rfl
            have bf := fz_of b0
            obtain ⟨pv, -, -, P⟩ := TT.out.T.peer HK2.out id
            have pc0 := P.c0
            have BK := hid bk
            have neb : pb ≠ wc.heap.size := by omega
            have neb2 := neb.symm
            have hx2 : x < (G1.put wc.heap.size kAny).k := hx1
            have HTG := hid htg
            have CS : Hid (∀ (W : World) (tg : Int), U64 tg → Typed0 W (G1.put wc.heap.size kAny) → Calls Try.prog 49 #[.pointer (some ⟨(G.lay x).nb, 0, none⟩), .string s, .agg #[.int .u64 tg, .bool true]] W fun e w' => Un 1 (G1.put wc.heap.size kAny) e w') := fun W tg' hu h => by
              have c := c49 (tg := tg') (su := true) (s := s) ⟨h, A.out.A⟩ hx2 (HSI.out.le L22.out) hu (fun _ => HNX.out) (by show G1.t + 1 ≤ _; have := LL.out.t1; have := HT.out; omega)
              rw [show (G1.put wc.heap.size kAny).lay = G.lay from hl1] at c
              exact c
            clear P b0 bk
            generalize (wc.alloc (.cells #[.int .u64 tg, .bool su] 66)).drew = W at *
            cases su with
            | true =>
              go_wp2_with fail
              go_roundg (gk - 1)
              case measure => have := J.out; omega
              case rel => exact ⟨j + 1, by have := J.out; omega, rfl, _, (LL.out.trans L22.out).mono (by omega), TT.out⟩
            | false =>
              cases ok
              all_goals
                go_wp2_with fail
                go_region_with (go_at_call 49; refine (CS.out _ _ (by first | exact HTG.out | exact u64_wrap _) (by repeat (first | exact TT.out.T | refine TypedE.drew ?_ | refine TypedE.setE ?_ (.inr (by rw [BK.out]))))).mono ?_; rintro e w' ⟨rfl, h⟩; have H := hid h; clear h)
                all_goals
                  go_wp2_with fail
                  go_roundg (gk - 1)
                  case measure => have := J.out; omega
                  case rel =>
                    obtain ⟨G3, L3, T3⟩ := H.out
                    exact ⟨j + 1, by have := J.out; omega, rfl, G3, ((LL.out.trans L22.out).trans L3).mono (by omega), T3⟩
    · have hge : (nn : Int) ≤ (j : Int) := by omega
      clear hj
      go_wp2_with fail
      go_end0
      exact ⟨rfl, G1, LL.out.mono (by have := J.out; omega), A.out⟩
end Go.Proofs.Qxb6002353a
