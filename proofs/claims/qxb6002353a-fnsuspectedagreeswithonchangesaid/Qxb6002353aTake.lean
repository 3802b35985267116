/-
  SEAT b6002353a: take.
-/
import Derived.Test.Qxb6002353aClose
namespace Go.Proofs.Qxb6002353a
open Go.RowKit
set_option linter.unusedVariables false
set_option linter.unusedSimpArgs false

theorem TypedE.ent {E w G b n} (T : TypedE E w G) (h : G.kd b = kEnt n) (hE : ¬ E b) {i : Nat} (hi : i < n) : ∃ s tg su, (ID G s ∧ U64 tg) ∧ w.cell? ⟨b, i * 3, none⟩ = some (.string s) ∧ w.cell? ⟨b, i * 3 + 1, none⟩ = some (.int .u64 tg) ∧ w.cell? ⟨b, i * 3 + 2, none⟩ = some (.bool su) := by
  obtain ⟨o, k1, arr, rfl, k2⟩ := T.obj h (by simp) hE
  obtain ⟨s, tg, su, j1, j2, j3, j4⟩ := k2 i hi
  refine ⟨s, tg, su, j1, ?_, ?_, ?_⟩
  · rw [cell_of k1, Nat.mul_comm]; exact j2
  · rw [cell_of k1, Nat.mul_comm]; exact j3
  · rw [cell_of k1, Nat.mul_comm]; exact j4
theorem TypedE.ex3 {E w G b} {u v z : Value} {t : TypeId} (T : TypedE E w G) (h : G.kd b = kEx (.cells #[u, v, z] t (0, 0))) (hE : ¬ E b) : w.cell? ⟨b, 0, none⟩ = some u ∧ w.cell? ⟨b, 1, none⟩ = some v ∧ w.cell? ⟨b, 2, none⟩ = some z := by
  have e := T.exact h hE
  exact ⟨(cell_of e _).trans rfl, (cell_of e _).trans rfl, (cell_of e _).trans rfl⟩
theorem TypedE.ex2 {E w G b} {u v : Value} {t : TypeId} (T : TypedE E w G) (h : G.kd b = kEx (.cells #[u, v] t (0, 0))) (hE : ¬ E b) : w.cell? ⟨b, 0, none⟩ = some u ∧ w.cell? ⟨b, 1, none⟩ = some v := by
  have e := T.exact h hE
  exact ⟨(cell_of e _).trans rfl, (cell_of e _).trans rfl⟩
theorem EntOk.shape {G : Gh} {v : Value} (h : EntOk G v) : ∃ ad n c, v = .slice ad n c ∧ n ≤ 5 ∧ (0 < n → ∃ b, ad = some ⟨b, 0, none⟩ ∧ G.kd b = kEnt n) := by
  rcases h with rfl | ⟨b, n, c, rfl, h1, h2, h3⟩
  · exact ⟨none, 0, 0, rfl, by omega, by omega⟩
  · exact ⟨_, n, c, rfl, h2, fun _ => ⟨b, rfl, h1⟩⟩

set_option maxHeartbeats 8000000 in
set_option maxRecDepth 100000 in
theorem c37 {w G x v} {fs : ByteArray} (T : Typed w G) (hx : x < G.k) (hv : EntOk G v) (ht : G.t + 5 ≤ 100000) : Calls Try.prog 37 #[.pointer (some ⟨(G.lay x).nb, 0, none⟩), .string fs, v] w fun e w' => Un 5 G e w' := by
  obtain ⟨ad, nn, c, rfl, hn5, hent⟩ := hv.shape
  have A0 := hid T
  have ENT := hid hent
  have HT := hid ht
  clear T hent hv ht
  go_enter Try.func37, Try.ntmps37
  go_wp2_with fail
  go_loopg [13] nn (fun k i wr => ∃ j : Nat, j + k = nn ∧ i = .int .i64 j ∧ ∃ G1, Le j G G1 ∧ Typed wr G1)
  case atStart => exact ⟨0, by omega, rfl, G, Le.refl G, A0.out⟩
  case round =>
    obtain ⟨j, hj, rfl, G1, L1, T⟩ := hrel
    have hx1 : x < G1.k := by rw [L1.k]; exact hx
    have A := hid T
    have J := hid hj
    have LL := hid L1
    by_cases hlt : j < nn
    · have hlt' : (j : Int) < (nn : Int) := by omega
      obtain ⟨b, rfl, hk⟩ := ENT.out (by omega)
      obtain ⟨sn, tg, su, ⟨hsi, htg⟩, e0, e1, e2⟩ := T.T.ent (L1.up hk (by simp) (by simp) (by simp)) id hlt
      have HSI := hid hsi
      have HTG := hid htg
      clear htg hk hsi T L1 hj
      go_upto_region 2 with fail
      go_cut [7] (fun s7 wd => ∃ G2 eb, s7 = .pointer (some ⟨eb, 0, none⟩) ∧ Le 0 G1 G2 ∧ Typed wd G2 ∧ G2.kd eb = kEx (.cells #[.string sn, .int .u64 tg, .bool su] 91 (0, 0)))
      case first =>
        go_wp2_with fail
        go_meet
        case rel =>
          exact ⟨G1.put wr.heap.size (kEx (.cells #[.string sn, .int .u64 tg, .bool su] 91 (0, 0))), _, rfl, Le.put _ (by rw [A.out.T.fr _ (Nat.le_refl _)]), ⟨A.out.T.alloc _ rfl ⟨by simp, by simp, by simp, by simp, by simp⟩, A.out.A⟩, Gh.put_at _ _ _⟩
      case rest =>
        obtain ⟨G2, eb, rfl, L2, T, hk2⟩ := hcut
        clear A e0 e1 e2
        have A := hid T
        have LL2 := hid (LL.out.trans L2)
        have HK2 := hid hk2
        have HSI2 := hid (HSI.out.le L2)
        clear LL HSI
        have hx2 : x < G2.k := by rw [L2.k]; exact hx1
        have hl2 : G2.lay = G.lay := LL2.out.lay
        obtain ⟨v1, vo1, n1⟩ := T.T.node hx2 id
        have nc8 := n1.c8
        obtain ⟨e0, e1, e2⟩ := T.T.ex3 hk2 id
        obtain ⟨tgh, suh, ok, -, look, -, -⟩ := look_qmW T.T hx2 id sn
        have look1 : (Instr.lookup 61 (.map (some (G2.lay x).qm)) (.string sn) true).run Try.prog wc.drew = .ok (.tuple #[.agg #[.int .u64 tgh, .bool suh], .bool ok]) wc.drew := look _ rfl
        have look2 : (Instr.lookup 61 (.map (some (G2.lay x).qm)) (.string sn) true).run Try.prog (wc.alloc (.cells #[.int .u64 0, .bool false] 66)).drew = .ok (.tuple #[.agg #[.int .u64 tgh, .bool suh], .bool ok]) (wc.alloc (.cells #[.int .u64 0, .bool false] 66)).drew := look _ (alloc_lt _ _ (T.T.lt (T.T.qm x hx2) (by simp)))
        have lt1 : (G2.lay x).nb < wc.heap.size := T.T.lt (T.T.nb x hx2) (by simp)
        have lt2 : eb < wc.heap.size := T.T.lt hk2 (by simp)
        rw [hl2] at nc8 look1 look2 lt1
        clear n1 vo1 look T hk2 L2
        have f66 := field66
        go_upto_region 3 with fail
        go_cut [7, 8, 9] (fun s7 s8 s9 wd => ∃ G3 hb, s7 = .pointer (some ⟨eb, 0, none⟩) ∧ s8 = .pointer (some ⟨hb, 0, none⟩) ∧ s9 = .bool ok ∧ Le 0 G2 G3 ∧ Typed wd G3 ∧ G3.kd hb = kEx (.cells #[.int .u64 tgh, .bool suh] 66 (0, 0)))
        case first =>
          go_region
          all_goals
            go_wp2_with fail
            go_meet
            case rel =>
              exact ⟨G2.put wc.heap.size (kEx (.cells #[.int .u64 tgh, .bool suh] 66 (0, 0))), _, rfl, rfl, rfl, Le.put _ (by rw [A.out.T.fr _ (Nat.le_refl _)]), ⟨(A.out.T.alloc (kEx (.cells #[.int .u64 tgh, .bool suh] 66 (0, 0))) rfl ⟨by simp, by simp, by simp, by simp, by simp⟩).drew, A.out.A⟩, Gh.put_at _ _ _⟩
        case rest =>
          obtain ⟨G3, hb, rfl, rfl, rfl, L3, T, hk3⟩ := hcut
          clear A e0 e1 e2 nc8 look1 look2 lt1 lt2
          have A := hid T
          have LL3 := hid (LL2.out.trans L3)
          have HK3 := hid (L3.up HK2.out (by simp) (by simp) (by simp))
          have HSI3 := hid (HSI2.out.le L3)
          clear LL2 HK2 HSI2
          have hx3 : x < G3.k := by rw [L3.k]; exact hx2
          have hl3 : G3.lay = G.lay := LL3.out.lay
          obtain ⟨v1, vo1, n1⟩ := T.T.node hx3 id
          obtain ⟨e0, e1, e2⟩ := T.T.ex3 HK3.out id
          obtain ⟨h0, h1⟩ := T.T.ex2 hk3 id
          have nc0 := n1.c0
          have nc4 := n1.c4
          rw [hl3] at nc0 nc4
          clear n1 vo1 T hk3 L3
          have CS : Hid (∀ (W : World) (s : ByteArray) (tg : Int) (su : Bool), Typed0 W G3 → ID G3 s → U64 tg → (su = true → s ≠ nm x) → Calls Try.prog 49 #[.pointer (some ⟨(G.lay x).nb, 0, none⟩), .string s, .agg #[.int .u64 tg, .bool su]] W fun e w' => Un 1 G3 e w') := fun W s tg su h1 h2 hu h3 => by
            have c := c49 (tg := tg) (su := su) (s := s) ⟨h1, A.out.A⟩ hx3 h2 hu h3 (by have := LL3.out.t1; have := HT.out; omega)
            rw [hl3] at c
            exact c
          go_upto_region 4 with fail
          go_cut [7, 9, 35] (fun s7 s9 s35 wd => s7 = .pointer (some ⟨eb, 0, none⟩) ∧ (∃ b, s9 = .bool b) ∧ (∃ b, s35 = .bool b) ∧ wc = wd)
          case first =>
            go_wp2_with fail
            all_goals
              go_meet
              case rel => exact ⟨rfl, ⟨_, rfl⟩, ⟨_, rfl⟩, rfl⟩
          case rest =>
            obtain ⟨rfl, ⟨b9, rfl⟩, ⟨b, rfl⟩, rfl⟩ := hcut
            clear h0 h1
            cases b with
            | true =>
              go_wp2_with fail
              go_roundg (gk - 1)
              case measure => have := J.out; omega
              case rel => exact ⟨j + 1, by have := J.out; omega, rfl, G3, LL3.out.mono (by omega), A.out⟩
            | false =>
              have hnm : Hid (∀ a b : ByteArray, (a.toList == b.toList) = true → a = b) := fun a b h => tl_eq h
              go_upto_region 6 with fail
              go_cut [7, 42] (fun s7 s42 wd => s7 = .pointer (some ⟨eb, 0, none⟩) ∧ ∃ b, s42 = .bool b ∧ Typed wd G3 ∧ (b = false → su = true → sn ≠ nm x))
              case first =>
                cases su with
                | false =>
                  go_quiet (fail)
                  go_wp2_with fail
                  go_meet
                  case rel => exact ⟨rfl, _, rfl, ⟨A.out.T.drewN _, A.out.A⟩, fun _ h => by cases h⟩
                | true =>
                  go_quiet (fail)
                  go_wp2_with fail
                  go_meet
                  case rel => exact ⟨rfl, _, rfl, ⟨A.out.T.drewN _, A.out.A⟩, fun h _ => tl_ne h⟩
              case rest =>
                obtain ⟨rfl, b, rfl, T, hb⟩ := hcut
                clear A CS
                have A := hid T
                have HB := hid hb
                obtain ⟨v1, vo1, n1⟩ := T.T.node hx3 id
                clear e0 e1 e2 nc0 nc4
                obtain ⟨e0, e1, e2⟩ := T.T.ex3 HK3.out id
                have nc0 := n1.c0
                have nc4 := n1.c4
                rw [hl3] at nc0 nc4
                clear n1 vo1 T hb
                have CS : Hid (∀ (W : World) (s : ByteArray) (tg : Int) (su : Bool), Typed0 W G3 → ID G3 s → U64 tg → (su = true → s ≠ nm x) → Calls Try.prog 49 #[.pointer (some ⟨(G.lay x).nb, 0, none⟩), .string s, .agg #[.int .u64 tg, .bool su]] W fun e w' => Un 1 G3 e w') := fun W s tg su h1 h2 hu h3 => by
                  have c := c49 (tg := tg) (su := su) (s := s) ⟨h1, A.out.A⟩ hx3 h2 hu h3 (by have := LL3.out.t1; have := HT.out; omega)
                  rw [hl3] at c
                  exact c
                cases b with
                | true =>
                  go_wp2_with fail
                  go_region_with (go_at_call 49; refine (CS.out _ _ _ _ (by repeat (first | exact A.out.T | refine TypedE.drew ?_)) ⟨x, hx3, rfl⟩ (u64_wrap _) (fun h => by cases h)).mono ?_; rintro e w' ⟨rfl, h⟩; have H := hid h; clear h)
                  all_goals
                    go_wp2_with fail
                    go_roundg (gk - 1)
                    case measure => have := J.out; omega
                    case rel =>
                      obtain ⟨G4, L4, T4⟩ := H.out
                      exact ⟨j + 1, by have := J.out; omega, rfl, G4, (LL3.out.trans L4).mono (by omega), T4⟩
                | false =>
                  go_upto_region 8 with fail
                  go_cut [7, 66] (fun s7 s66 wd => s7 = .pointer (some ⟨eb, 0, none⟩) ∧ ∃ b, s66 = .bool b ∧ Typed wd G3 ∧ (b = true → su = false))
                  case first =>
                    cases su with
                    | true =>
                      go_quiet (fail)
                      go_wp2_with fail
                      go_meet
                      case rel => exact ⟨rfl, _, rfl, ⟨A.out.T.drewN _, A.out.A⟩, fun h => by cases h⟩
                    | false =>
                      cases hA : (sn.toList == fs.toList) <;> cases hB : (sn.toList == (nm x).toList)
                      all_goals
                        go_quiet (fail)
                        go_wp2_with fail
                        go_meet
                        case rel => exact ⟨rfl, _, rfl, ⟨A.out.T.drewN _, A.out.A⟩, fun _ => by first | rfl | trivial⟩
                  case rest =>
                    obtain ⟨rfl, b, rfl, T, hb2⟩ := hcut
                    clear A CS
                    have A := hid T
                    have HB2 := hid hb2
                    clear e0 e1 e2 nc0 nc4
                    obtain ⟨e0, e1, e2⟩ := T.T.ex3 HK3.out id
                    clear T hb2
                    have CS : Hid (∀ (W : World) (s : ByteArray) (tg : Int) (su : Bool), Typed0 W G3 → ID G3 s → U64 tg → (su = true → s ≠ nm x) → Calls Try.prog 49 #[.pointer (some ⟨(G.lay x).nb, 0, none⟩), .string s, .agg #[.int .u64 tg, .bool su]] W fun e w' => Un 1 G3 e w') := fun W s tg su h1 h2 hu h3 => by
                      have c := c49 (tg := tg) (su := su) (s := s) ⟨h1, A.out.A⟩ hx3 h2 hu h3 (by have := LL3.out.t1; have := HT.out; omega)
                      rw [hl3] at c
                      exact c
                    cases b with
                    | false =>
                      go_wp2_with fail
                      refine (CS.out _ _ _ _ A.out.T HSI3.out HTG.out (HB.out (by first | rfl | trivial))).mono ?_
                      rintro e w' ⟨rfl, h⟩
                      have H := hid h
                      clear h
                      go_wp2_with fail
                      go_roundg (gk - 1)
                      case measure => have := J.out; omega
                      case rel =>
                        obtain ⟨G4, L4, T4⟩ := H.out
                        exact ⟨j + 1, by have := J.out; omega, rfl, G4, (LL3.out.trans L4).mono (by omega), T4⟩
                    | true =>
                      obtain rfl : su = false := HB2.out rfl
                      go_wp2_with fail
                      refine (CS.out _ _ _ _ A.out.T HSI3.out HTG.out (fun h => by cases h)).mono ?_
                      rintro e w' ⟨rfl, G4, L4, T4⟩
                      have HK4 := L4.up HK3.out (by simp) (by simp) (by simp)
                      have hx4 : x < G4.k := by rw [L4.k]; exact hx3
                      have hl4 : G4.lay = G.lay := L4.lay.trans hl3
                      have LL4 := hid (LL3.out.trans L4)
                      clear e0 e1 e2
                      obtain ⟨e0, e1, e2⟩ := T4.T.ex3 HK4 id
                      obtain ⟨v4, vo4, n4⟩ := T4.T.node hx4 id
                      obtain ⟨pp, look, hpp, -, -⟩ := look_pm T4.T hx4 id sn
                      have nc4 := n4.c4
                      have nc6 := n4.c6
                      have nfz := n4.fz
                      rw [hl4] at nc4 nc6 nfz look
                      have A4 := hid T4
                      have NB4 := hid (T4.T.nb x hx4)
                      clear n4 vo4 T4 L4 HK4 CS
                      rcases hpp with rfl | ⟨pb, rfl, hpk⟩
                      · go_wp2_with fail
                        go_quiet (fail)
                        go_wp2_with fail
                        go_roundg (gk - 1)
                        case measure => have := J.out; omega
                        case rel => exact ⟨j + 1, by have := J.out; omega, rfl, G4, LL4.out.mono (by omega), A4.out.T.drewN _, A4.out.A⟩
                      · obtain ⟨pv, -, -, P⟩ := A4.out.T.peer hpk id
                        have HPK := hid hpk
                        have ne := kd_ne NB4.out hpk (by simp)
                        rw [hl4] at ne
                        have ne2 := ne.symm
                        have pc1 := P.c1
                        have pfz := P.fz
                        clear P hpk
                        go_wp2_with fail
                        go_quiet (fail)
                        go_wp2_with fail
                        all_goals
                          go_roundg (gk - 1)
                          case measure => have := J.out; omega
                          case rel =>
                            refine ⟨j + 1, by have := J.out; omega, rfl, G4, LL4.out.mono (by omega), ?_, A4.out.A⟩
                            try rw [← hl4]
                            repeat (first | exact A4.out.T | refine TypedE.drewN ?_ _ | refine TypedE.n6 ?_ hx4 | refine TypedE.p1 ?_ HPK.out)
    · have hge : (nn : Int) ≤ (j : Int) := by omega
      clear hj
      go_wp2_with fail
      go_end0
      exact ⟨rfl, G1, LL.out.mono (by have := J.out; omega), A.out⟩
end Go.Proofs.Qxb6002353a
