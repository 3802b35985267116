/-
  SEAT b6002353a: held.
-/
import Derived.Test.Qxb6002353aEnts
namespace Go.Proofs.Qxb6002353a
open Go.RowKit
set_option linter.unusedVariables false
set_option linter.unusedSimpArgs false

/-- the node's block while its carried row is built -/
structure NHalf (G0 : Gh) (w0 : World) (G : Gh) (x j : Nat) (nv : NV) (w : World) : Prop where
  T : TypedE (fun b => b = (G0.lay x).nb) w G
  A : Agree G
  L : Le 0 G0 G
  o : w.heap[(G0.lay x).nb]? = some (.cells (nv.arr G x) 64 (0, 0))
  by_ : ByOk G x nv.by_
  ak0 : 0 ≤ nv.ak
  ak1 : nv.ak ≤ G.t
  et : Et G nv.ca j w
  sz : w0.heap.size ≤ w.heap.size
  fr : ∀ b, nv.ca.ownBlock = some b → w0.heap.size ≤ b

theorem NHalf.start {w G x nv} (T : Typed w G) (hx : x < G.k) (ho : w.heap[(G.lay x).nb]? = some (.cells (nv.arr G x) 64 (0, 0))) (hk : nv.Ok G x) (h0 : nv.ca = .slice none 0 0) : NHalf G w G x 0 nv w :=
  ⟨T.T.weaken (fun _ h => h.elim), T.A, Le.refl G, ho, hk.by_, hk.ak0, hk.ak1, ⟨(fun b h => by rw [h0] at h; cases h), ⟨[], by rw [h0]; exact ⟨rfl, .inl ⟨rfl, rfl⟩⟩, fun i hi => by omega⟩, fun _ => h0⟩, Nat.le_refl _, fun b h => by rw [h0] at h; cases h⟩

theorem NHalf.fin {G0 w0 G x j nv w} (T0 : Typed w0 G0) (hx : x < G0.k) (h : NHalf G0 w0 G x j nv w) (h5 : j ≤ 5) : ∃ G', Le 0 G0 G' ∧ Typed w G' ∧ EntOk G' nv.ca ∧ w.cell? ⟨(G0.lay x).nb, 9, none⟩ = some nv.ca := by
  obtain ⟨G', L', X, T', hE⟩ := h.et.fin h.T h5 h.L (fun b hb => by rw [T0.T.fr b (h.fr b hb)]) (fun b hb e => by
    have h1 := h.et.vk b hb
    have h2 : G.kd (G0.lay x).nb = kNode x := by rw [← h.L.lay]; exact h.T.nb x (by rw [h.L.k]; exact hx)
    rw [e, h2] at h1; cases h1)
  have hl : G'.lay = G0.lay := L'.lay
  refine ⟨G', L', ⟨T'.shut ?_, h.A.ext X⟩, hE, (cell_of h.o _).trans rfl⟩
  rintro b o rfl - ho
  have e := h.o
  rw [ho] at e
  cases e
  have h2 : G'.kd (G0.lay x).nb = kNode x := by rw [← hl]; exact T'.nb x (by rw [L'.k]; exact hx)
  rw [h2]
  exact ⟨nv, by rw [nv.arr_ext X], h.by_.ext X, hE, h.ak0, by have := h.ak1; have := X.t; omega⟩

theorem NHalf.next {G0 w0 G x j nv w v' w5 G'} (hx : x < G0.k) (h : NHalf G0 w0 G x j nv w) (hv : ∀ b, b < w.heap.size → nv.ca.ownBlock ≠ some b → w5.heap[b]? = w.heap[b]?) (hsz : w.heap.size ≤ w5.heap.size) (hw : ∀ b, v'.ownBlock = some b → nv.ca.ownBlock = some b ∨ w.heap.size ≤ b) (L : Le 0 G G') (X : Ext G G') (T : TypedE (fun b => b = (G0.lay x).nb) w5 G') (B : Et G' v' (j + 1) w5) :
    w5.heap[(G0.lay x).nb]? = w.heap[(G0.lay x).nb]? ∧ NHalf G0 w0 G' x (j + 1) { nv with ca := v' } (w5.setCell ⟨(G0.lay x).nb, 9, none⟩ v') := by
  have h2 : G.kd (G0.lay x).nb = kNode x := by rw [← h.L.lay]; exact h.T.nb x (by rw [h.L.k]; exact hx)
  have e1 : w5.heap[(G0.lay x).nb]? = w.heap[(G0.lay x).nb]? := hv _ (h.T.lt h2 (by simp)) (fun e => by have := h.et.vk _ e; rw [h2] at this; cases this)
  have hne : ∀ b, v'.ownBlock = some b → b ≠ (G0.lay x).nb := fun b hb e => by
    have h3 := B.vk b hb
    rw [e, L.up h2 (by simp) (by simp) (by simp)] at h3; cases h3
  refine ⟨e1, T.setE (.inl rfl), h.A.ext X, (h.L.trans L).mono (by omega), ?_, h.by_.ext X, h.ak0, by have := h.ak1; have := X.t; show nv.ak ≤ _; omega, ⟨B.vk, ?_, B.z⟩, ?_, fun b hb => ?_⟩
  · have e2 := e1.trans h.o
    rw [setCell_at e2]
    rw [NV.arr_ext X]
    rfl
  · obtain ⟨xs, h3, h4⟩ := B.own
    exact ⟨xs, own_of_block h3 (fun b hb => setCell_other (hne b hb)), h4⟩
  · have := h.sz
    have e : (w5.setCell ⟨(G0.lay x).nb, 9, none⟩ v').heap.size = w5.heap.size := by simp [World.setCell]
    rw [e]; omega
  · rcases hw b hb with h3 | h3
    · exact h.fr b h3
    · have := h.sz; omega

/-- the row of names, told exactly -/
theorem SortedPost.told {G w e w'} (h : SortedPost G w e w') : ∃ v G1, ∃ l : List ByteArray, e = .returned v ∧ Le 0 G G1 ∧ Typed w' G1 ∧ l.length ≤ 5 ∧ (∀ s ∈ l, ID G1 s) ∧ ∃ ad c, v = .slice ad l.length c ∧ (0 < l.length → ∃ rb arr, ad = some ⟨rb, 0, none⟩ ∧ l.length ≤ c ∧ G1.kd rb = kEx (.cells arr 9 (0, 0)) ∧ ∀ (i : Nat) s, l[i]? = some s → arr[i]? = some (.string s)) ∧ ∀ b, b < w.heap.size → w'.heap[b]? = w.heap[b]? := by
  obtain ⟨v, G1, l, rfl, L1, T1, vk, own, hi, hs, hq, hr, hfr⟩ := h
  have hl5 : l.length ≤ 5 := by
    have := sorted_len hs 0 (fun s hs => by obtain ⟨i, h1, h2⟩ := hi s hs; exact ⟨i, by omega, by have := T1.T.k5; have := L1.k; omega, h2⟩)
    omega
  rcases own.2 with ⟨rfl, hl⟩ | ⟨g, cap, cur, rfl, k1, k2, k3, k4, k5, k6⟩
  · exact ⟨_, G1, l, rfl, L1, T1, hl5, fun s hs => (hi s hs).le L1, none, 0, by rw [hl], fun h => by omega, hfr⟩
  · obtain ⟨hk, hfree⟩ := vk g rfl
    have T2 := T1.T.rekind (b := g) (kEx (.cells cur 9 (0, 0))) (.inr (.inl hk)) k1 (fun o ho _ => by rw [k2] at ho; cases ho; rfl) ⟨by simp, by simp, by simp, by simp, by simp⟩
    refine ⟨_, G1.put g (kEx (.cells cur 9 (0, 0))), l, rfl, ⟨L1.k, L1.w0, L1.lay, L1.t0, L1.t1, fun i => ?_⟩, ⟨T2, T1.A⟩, hl5, fun s hs => (hi s hs).le (G' := G1) L1, some ⟨g, 0, none⟩, cap, rfl, fun _ => ⟨g, cur, rfl, k3, Gh.put_at _ _ _, fun i s h => ?_⟩, hfr⟩
    · by_cases e : i = g
      · subst e; exact .inl hfree
      · rw [Gh.put_ne _ _ e]; exact L1.kd i
    · have h1 : (l.map Value.string)[i]? = some (.string s) := by simp [h]
      rw [← k6, List.getElem?_take_of_lt (by have := (List.getElem?_eq_some_iff.1 h).1; omega)] at h1
      simpa using h1

theorem nil41 (a : Option Addr) (n c : Nat) (w : World) : (binOp .eql 41 (.slice a n c) (.slice none 0 0)).run Try.prog w = .ok (.bool a.isNone) w := by
  cases a with
  | none => kernel_rfl
  | some a => kernel_rfl
theorem len61 {w : World} {b : Nat} {es : Array MapEntry} {c : Nat} (hb : w.heap[b]? = some (.map es c)) (ty : TypeId) : (Builtin.len_ #[61] ty #[.map (some b)]).run Try.prog w = .ok (.int .i64 es.size) w := by
  simp [Builtin.len_, run_underlying Try.underlying61, MapKept.run_getObj_map hb, goInt, Result.andThen]
def HPost (G : Gh) (e : Ending) (w' : World) : Prop := ∃ v G', e = .returned v ∧ Le 0 G G' ∧ Typed w' G' ∧ EntOk G' v

/-- the map of the pairs, as it lies -/
theorem TypedE.qmap {E w G x} (T : TypedE E w G) (hx : x < G.k) (hE : ¬ E (G.lay x).qm) : ∃ es c, w.heap[(G.lay x).qm]? = some (.map es c) ∧ MapKept.Stamped es c ∧ ∀ e ∈ es.toList, ∃ s, e.key = Value.string s ∧ ID G s := by
  obtain ⟨o, h1, es, c, rfl, h2, h3, h4⟩ := T.obj (T.qm x hx) (by simp) hE
  exact ⟨es, c, h1, h2, fun e he => by obtain ⟨s, _, _, k1, _, k3, _⟩ := h3 e he; exact ⟨s, k1, k3.1⟩⟩

set_option maxHeartbeats 8000000 in
set_option maxRecDepth 100000 in
theorem c33 {w G x} (T : Typed w G) (hx : x < G.k) : Calls Try.prog 33 #[.pointer (some ⟨(G.lay x).nb, 0, none⟩)] w fun e w' => HPost G e w' := by
  obtain ⟨o, ho, v, rfl, vo⟩ := T.T.obj (T.T.nb x hx) (by simp) id
  have nc9 : w.cell? ⟨(G.lay x).nb, 9, none⟩ = some v.ca := (cell_of ho _).trans rfl
  have nc8 : w.cell? ⟨(G.lay x).nb, 8, none⟩ = some (.map (some (G.lay x).qm)) := (cell_of ho _).trans rfl
  have hca := vo.ca
  obtain ⟨es, c, hm, hst, hks⟩ := T.T.qmap hx id
  have A := hid T
  have HO := hid ho
  have VO := hid vo
  have HS := hid hst
  have HK := hid hks
  have HM := hid hm
  clear T ho vo hst hks
  have nl := nil41
  rcases hca with hca | ⟨b, n, cc, hca, hk, h5, hn0⟩
  · rw [hca] at nc9
    have lm := len61 hm 3
    by_cases hz : es.size = 0
    · rw [hz] at lm
      clear HO VO hm
      go_enter Try.func33, Try.ntmps33
      go_wp2_with fail
      go_ret
      exact ⟨_, G, rfl, Le.refl G, A.out, .inl rfl⟩
    · have hz' : (0 : Int) < (es.size : Int) := by omega
      have C50 := hid (c50 (G.lay x).qm w)
      have hf := A.out.T.fr _ (Nat.le_refl _)
      have T1 : Typed (w.alloc (.cells #[.map (some (G.lay x).qm)] 61)) (G.put w.heap.size (kEx (.cells #[.map (some (G.lay x).qm)] 61 (0, 0)))) := ⟨A.out.T.alloc _ rfl ⟨by simp, by simp, by simp, by simp, by simp⟩, A.out.A⟩
      have L1 : Le 0 G (G.put w.heap.size (kEx (.cells #[.map (some (G.lay x).qm)] 61 (0, 0)))) := Le.put _ (by rw [hf])
      have C43 := hid (c43_71 T1 (Gh.put_at _ _ _) ((alloc_lt _ _ (A.out.T.lt (A.out.T.qm x hx) (by simp))).trans HM.out) HS.out (fun e he => by obtain ⟨s, h1, h2⟩ := HK.out e he; exact ⟨s, h1, h2⟩))
      have L1' := hid L1
      clear T1 L1 hf VO
      go_enter Try.func33, Try.ntmps33
      go_wp2_with fail
      refine C50.out.mono ?_
      rintro e w' ⟨rfl, rfl⟩
      clear nc9 nc8 hm lm
      go_wp2_with fail
      refine C43.out.mono ?_
      intro e w1 hp
      obtain ⟨vr, G1, l, rfl, L2, T1, hl5, hli, ad, cr, rfl, hrow, hfr⟩ := hp.told
      have hx1 : x < G1.k := by rw [L2.k]; exact hx
      have hl1 : G1.lay = G.lay := L2.lay
      have A1 := hid T1
      have LL := hid (L1'.out.trans L2)
      have HROW := hid hrow
      have HLI := hid hli
      have hnbw : w1.heap[(G.lay x).nb]? = w.heap[(G.lay x).nb]? := by
        have hlt := A.out.T.lt (A.out.T.nb x hx) (by simp)
        rw [hfr _ (by rw [alloc_size]; omega)]; exact alloc_lt _ _ hlt
      clear T1 L2 hrow hli C50 C43 L1' HK HS HM hp hfr
      obtain ⟨o1, ho1, v1, rfl, vo1⟩ := A1.out.T.obj (A1.out.T.nb x hx1) (by simp) id
      have hca1 : v1.ca = .slice none 0 0 := by
        have e1 := HO.out
        rw [hl1, hnbw, e1] at ho1
        have e2 : (v.arr G x)[9]? = (v1.arr G1 x)[9]? := by rw [Obj.cells.inj (Option.some.inj ho1) |>.1]
        have e3 : some v.ca = some v1.ca := e2
        rw [← Option.some.inj e3]; exact hca
      have HALF := hid (NHalf.start A1.out hx1 ho1 vo1 hca1)
      clear HO A vo1 ho1 hca1 hnbw hca
      go_wp2_with fail
      go_loopg [25] l.length (fun k i wr => ∃ (j : Nat) (G2 : Gh) (nv : NV), j + k = l.length ∧ i = .int .i64 j ∧ NHalf G1 w1 G2 x j nv wr)
      case atStart => exact ⟨0, G1, v1, by omega, rfl, HALF.out⟩
      case round =>
        obtain ⟨j, G2, nv, hj, rfl, H⟩ := hrel
        have J := hid hj
        have HH := hid H
        have L2 := H.L
        have hl2 : G2.lay = G.lay := L2.lay.trans hl1
        have hx2 : x < G2.k := by rw [L2.k]; exact hx1
        have ho2 := H.o
        rw [hl1] at ho2
        have nc9 : wr.cell? ⟨(G.lay x).nb, 9, none⟩ = some nv.ca := (cell_of ho2 _).trans rfl
        have nc8 : wr.cell? ⟨(G.lay x).nb, 8, none⟩ = some (.map (some (G.lay x).qm)) := (cell_of ho2 _).trans (by rw [← hl2]; rfl)
        by_cases hlt : j < l.length
        · have hlt' : (j : Int) < (l.length : Int) := by omega
          obtain ⟨rb, arr, rfl, hlc, hkr, harr⟩ := HROW.out (by omega)
          obtain ⟨s, hs⟩ : ∃ s, l[j]? = some s := ⟨l[j], by simp [hlt]⟩
          have hrc : wr.cell? ⟨rb, j, none⟩ = some (.string s) := (cell_of (H.T.exact (L2.up hkr (by simp) (by simp) (by simp)) (fun e => by
            have h3 := A1.out.T.nb x hx1
            rw [← e, hkr] at h3; cases h3)) _).trans (harr j s hs)
          have hsi : ID G2 s := (HLI.out s (List.mem_of_getElem? hs)).le L2
          have hqn : (G2.lay x).qm ≠ (G1.lay x).nb := fun e => by
            have h3 := A1.out.T.nb x hx1
            have h4 := H.T.qm x hx2
            rw [e, L2.up h3 (by simp) (by simp) (by simp)] at h4; cases h4
          obtain ⟨tg, su, ok, look, -, -, htg⟩ := look_qmW H.T hx2 hqn s
          have look1 : (Instr.lookup 61 (.map (some (G2.lay x).qm)) (.string s) false).run Try.prog wr.drew = .ok (.agg #[.int .u64 tg, .bool su]) wr.drew := look _ rfl
          rw [hl2] at look1
          have hk5 : j ≤ 1000 := by omega
          obtain ⟨v', w5, hr, ⟨g5, c5, rfl⟩, f1, f2, f3, G3, L3, X3, T3, B3⟩ := Et.app (su := su) (w := wr.drew) H.T.drew ⟨H.et.vk, H.et.own, H.et.z⟩ hsi htg hk5 41
          obtain ⟨n1, n2⟩ := H.next hx1 f1 f2 f3 L3 X3 T3 B3
          rw [hl1] at n1
          have NX := hid n2
          have HR : Hid ((Builtin.append_ #[41, 41] 41 #[nv.ca, .slice (some ⟨wr.heap.size, 0, none⟩) 1 1]).run Try.prog (wr.alloc (.cells #[.string s, .int .u64 tg, .bool su] 91)).drew = .ok (.slice (some ⟨g5, 0, none⟩) (j + 1) c5) w5) := hr
          have hnlt : (G.lay x).nb < wr.heap.size := by rw [← hl2]; exact H.T.lt (H.T.nb x hx2) (by simp)
          have c9 : w5.cell? ⟨(G.lay x).nb, 9, none⟩ = some nv.ca := (cell_of (n1.trans ho2) _).trans rfl
          have fz9 : w5.frozen? ⟨(G.lay x).nb, 9, none⟩ = false := fz_of (n1.trans ho2) _
          clear n1 n2 hr f1 f2 f3 L3 X3 T3 B3 look htg hsi hqn harr hkr hj ho2 L2 H
          have f66 := field66
          go_upto_region 5 with fail
          go_region_law (refine step_append_run rfl (.tmp 33) (.tmp 42) 41 41 rfl nv.ca (.slice (some ⟨wr.heap.size, 0, none⟩) 1 1) (by simp [Act.eval, Act.put]) (by simp [Act.eval, Act.put]) HR.out ?_)
          all_goals
            go_wp2_with fail
            go_roundg (gk - 1)
            case measure => have := J.out; omega
            case rel => exact ⟨j + 1, G3, _, by have := J.out; omega, rfl, by rw [← hl1]; exact NX.out⟩
        · have hge : (l.length : Int) ≤ (j : Int) := by omega
          obtain ⟨G3, L3, T3, hE, c9⟩ := H.fin A1.out hx1 (by omega)
          have C51 := hid (c51 T3 hE)
          have L3' := hid L3
          have hk3 : G3.k = G1.k := L3.k
          clear T3 hE L3 H L2 ho2 c9 hj
          go_wp2_with fail
          refine C51.out.mono ?_
          rintro e w6 ⟨z, G6, rfl, L6, T6⟩
          have hx6 : x < G6.k := by rw [L6.k, hk3]; exact hx1
          have hl6 : G6.lay = G.lay := L6.lay.trans (L3'.out.lay.trans hl1)
          obtain ⟨v6, vo6, n6⟩ := T6.T.node hx6 id
          have m9 := n6.c9
          have m10 := n6.c10
          have mf := n6.fz 10
          rw [hl6] at m9 m10 mf
          have FIN : Hid (Typed (w6.setCell ⟨(G6.lay x).nb, 10, none⟩ (.int .u64 z)) G6) := ⟨T6.T.n10 hx6, T6.A⟩
          have L6' := hid L6
          have hca6 := vo6.ca
          have HC := hid hca6
          obtain ⟨ad6, nn6, cc6, hv6, -, -⟩ := hca6.shape
          rw [hv6] at m9
          clear T6 L6 vo6 n6 nc9 nc8 hca6
          go_wp2_with fail
          go_ret
          exact ⟨_, G6, rfl, ((LL.out.trans L3'.out).trans L6'.out).mono (by omega), by rw [← hl6]; exact FIN.out, by rw [← hv6]; exact HC.out⟩
  · rw [hca] at nc9
    clear HO VO hm
    go_enter Try.func33, Try.ntmps33
    go_wp2_with fail
    go_ret
    exact ⟨_, G, rfl, Le.refl G, A.out, .inr ⟨b, n, cc, rfl, hk, h5, hn0⟩⟩
end Go.Proofs.Qxb6002353a
