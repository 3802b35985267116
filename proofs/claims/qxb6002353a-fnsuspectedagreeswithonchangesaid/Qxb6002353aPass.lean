/-
  SEAT b6002353a: passOn.
-/
import Derived.Test.Qxb6002353aHeld
namespace Go.Proofs.Qxb6002353a
open Go.RowKit
set_option linter.unusedVariables false
set_option linter.unusedSimpArgs false

/-- the map of the news, as it lies -/
theorem TypedE.nmap {E w G x} (T : TypedE E w G) (hx : x < G.k) (hE : ¬ E (G.lay x).nw) : ∃ es c, w.heap[(G.lay x).nw]? = some (.map es c) ∧ MapKept.Stamped es c ∧ ∀ e ∈ es.toList, ∃ s, e.key = Value.string s ∧ ID G s := by
  obtain ⟨o, h1, es, c, rfl, h2, h3⟩ := T.obj (T.nw x hx) (by simp) hE
  exact ⟨es, c, h1, h2, fun e he => by obtain ⟨s, _, k1, _, k3⟩ := h3 e he; exact ⟨s, k1, k3⟩⟩

set_option maxHeartbeats 8000000 in
set_option maxRecDepth 100000 in
theorem c28 {w G x all} (T : Typed w G) (hx : x < G.k) : Calls Try.prog 28 #[.pointer (some ⟨(G.lay x).nb, 0, none⟩), .bool all] w fun e w' => HPost G e w' := by
  have C33 := hid (c33 T hx)
  obtain ⟨v, vo, n⟩ := T.T.node hx id
  have nc11 := n.c11
  obtain ⟨es, c, hm, hst, hks⟩ := T.T.nmap hx id
  have C44 := hid (c44 (G.lay x).nw w)
  have hf := T.T.fr _ (Nat.le_refl _)
  have T1 : Typed (w.alloc (.cells #[.map (some (G.lay x).nw)] 62)) (G.put w.heap.size (kEx (.cells #[.map (some (G.lay x).nw)] 62 (0, 0)))) := ⟨T.T.alloc _ rfl ⟨by simp, by simp, by simp, by simp, by simp⟩, T.A⟩
  have L1 : Le 0 G (G.put w.heap.size (kEx (.cells #[.map (some (G.lay x).nw)] 62 (0, 0)))) := Le.put _ (by rw [hf])
  have C43 := hid (c43_69 T1 (Gh.put_at _ _ _) ((alloc_lt _ _ (T.T.lt (T.T.nw x hx) (by simp))).trans hm) hst (fun e he => by obtain ⟨s, h1, h2⟩ := hks e he; exact ⟨s, h1, h2⟩))
  have L1' := hid L1
  clear T1 L1 hf T n vo hm hst hks
  go_enter Try.func28, Try.ntmps28
  go_upto_if 8 with fail
  go_cut [5] (fun s5 wd => ∃ G2, Le 0 G G2 ∧ Typed wd G2 ∧ EntOk G2 s5)
  case first =>
    cases all with
    | true =>
      go_wp2_with fail
      refine C33.out.mono ?_
      rintro e w1 ⟨v1, G1, rfl, L1, T1, h1⟩
      have X := hid (And.intro L1 (And.intro T1 h1))
      clear L1 T1 h1
      go_wp2_with fail
      go_meet
      case rel => exact ⟨G1, X.out⟩
    | false =>
      go_wp2_with fail
      refine C44.out.mono ?_
      rintro e w' ⟨rfl, rfl⟩
      clear nc11
      go_wp2_with fail
      refine C43.out.mono ?_
      intro e w1 hp
      obtain ⟨vr, G1, l, rfl, L2, T1, hl5, hli, ad, cr, rfl, hrow, hfr⟩ := hp.told
      have hx1 : x < G1.k := by rw [L2.k]; exact hx
      have hl1 : G1.lay = G.lay := L2.lay
      have A1 := hid T1
      have LL := hid (L1'.out.trans L2)
      have HROW := hid hrow
      have HLI := hid hli
      clear T1 L2 hrow hli C44 C43 L1' hp hfr C33
      go_wp2_with fail
      go_loopg [5, 18] l.length (fun k a i wr => ∃ (j : Nat) (G2 : Gh), j + k = l.length ∧ i = .int .i64 j ∧ Le 0 G1 G2 ∧ Typed wr G2 ∧ Et G2 a j wr ∧ w1.heap.size ≤ wr.heap.size ∧ ∀ b, a.ownBlock = some b → w1.heap.size ≤ b)
      case atStart => exact ⟨0, G1, by omega, rfl, Le.refl G1, A1.out, ⟨(fun b h => by cases h), ⟨[], ⟨rfl, .inl ⟨rfl, rfl⟩⟩, fun i hi => by omega⟩, fun _ => rfl⟩, Nat.le_refl _, (fun b h => by cases h)⟩
      case round =>
        obtain ⟨j, G2, hj, rfl, L2, T2, B2, hsz, hfr⟩ := hrel
        have J := hid hj
        have hl2 : G2.lay = G.lay := L2.lay.trans hl1
        have hx2 : x < G2.k := by rw [L2.k]; exact hx1
        obtain ⟨v2, vo2, n2⟩ := T2.T.node hx2 id
        have nc8 := n2.c8
        rw [hl2] at nc8
        clear n2 vo2
        by_cases hlt : j < l.length
        · have hlt' : (j : Int) < (l.length : Int) := by omega
          obtain ⟨rb, arr, rfl, hlc, hkr, harr⟩ := HROW.out (by omega)
          obtain ⟨s, hs⟩ : ∃ s, l[j]? = some s := ⟨l[j], by simp [hlt]⟩
          have hrc : wr.cell? ⟨rb, j, none⟩ = some (.string s) := (cell_of (T2.T.exact (L2.up hkr (by simp) (by simp) (by simp)) id) _).trans (harr j s hs)
          have hsi : ID G2 s := (HLI.out s (List.mem_of_getElem? hs)).le L2
          obtain ⟨tg, su, ok, look, -, -, htg⟩ := look_qmW T2.T hx2 id s
          have look1 : (Instr.lookup 61 (.map (some (G2.lay x).qm)) (.string s) false).run Try.prog wr = .ok (.agg #[.int .u64 tg, .bool su]) wr := look _ rfl
          rw [hl2] at look1
          obtain ⟨v', w5, hr, ⟨g5, c5, rfl⟩, f1, f2, f3, G3, L3, X3, T3, B3⟩ := Et.app (su := su) T2.T B2 hsi htg (by omega) 41
          have NX : Hid (Le 0 G1 G3 ∧ Typed w5 G3 ∧ Et G3 (.slice (some ⟨g5, 0, none⟩) (j + 1) c5) (j + 1) w5 ∧ w1.heap.size ≤ w5.heap.size ∧ ∀ b, (Value.slice (some ⟨g5, 0, none⟩) (j + 1) c5).ownBlock = some b → w1.heap.size ≤ b) :=
            ⟨(L2.trans L3).mono (by omega), ⟨T3, T2.A.ext X3⟩, B3, by omega, fun b hb => by
              rcases f3 b hb with h | h
              · exact hfr b h
              · omega⟩
          have HR := hid hr
          clear hr f1 f2 f3 L3 X3 T3 B3 look htg hsi harr hkr hj L2 T2 B2 hsz hfr
          have f66 := field66
          go_wp2_with (at_builtin; refine wpList_append_run rfl (.tmp 22) (.tmp 31) 41 41 rfl u5 (.slice (some ⟨wr.heap.size, 0, none⟩) 1 1) rfl rfl HR.out ?_)
          go_roundg (gk - 1)
          case measure => have := J.out; omega
          case rel => exact ⟨j + 1, G3, by have := J.out; omega, rfl, NX.out⟩
        · have hge : (l.length : Int) ≤ (j : Int) := by omega
          obtain ⟨G3, L3, X3, T3, hE⟩ := B2.fin T2.T (by omega) L2 (fun b hb => by rw [A1.out.T.fr b (hfr b hb)]) (fun _ _ h => h)
          have X := hid (And.intro (LL.out.trans L3) (And.intro (Typed.mk T3 (T2.A.ext X3)) hE))
          clear L3 X3 T3 hE L2 T2 B2 hsz hfr hj
          go_wp2_with fail
          go_meet
          case rel => exact ⟨G3, X.out.1.mono (by omega), X.out.2⟩
  case rest =>
    obtain ⟨G2, L2, T2, h2⟩ := hcut
    have hx2 : x < G2.k := by rw [L2.k]; exact hx
    have hl2 : G2.lay = G.lay := L2.lay
    obtain ⟨v2, vo2, n2⟩ := T2.T.node hx2 id
    obtain ⟨o, hcl, T3⟩ := clear_nw T2.T hx2 0
    generalize hW : Go.ChangeMaps.setBlock wc (G2.lay x).nw o = W at hcl T3
    obtain ⟨v3, vo3, n3⟩ := T3.node hx2 id
    have m11 := n2.c11
    have m14 := n3.c14
    have mf := n3.fz 14
    have FIN : Hid (Typed (W.setCell ⟨(G2.lay x).nb, 14, none⟩ (.bool false)) G2) := ⟨T3.n14 hx2, T2.A⟩
    rw [hl2] at m11 m14 mf hcl
    have LL := hid (And.intro L2 h2)
    clear L2 h2 n2 n3 vo2 vo3 T2 T3 hW nc11 C33 C44 C43
    go_wp2_with fail
    go_ret
    exact ⟨_, G2, rfl, LL.out.1, by rw [← hl2]; exact FIN.out, LL.out.2⟩
end Go.Proofs.Qxb6002353a
