/-
  SEAT b6002353a: Flush.
-/
import Derived.Test.Qxb6002353aMsgs
namespace Go.Proofs.Qxb6002353a
open Go.RowKit
set_option linter.unusedVariables false
set_option linter.unusedSimpArgs false

theorem nil33 (a : Option Addr) (n c : Nat) (w : World) : (binOp .eql 33 (.slice a n c) (.slice none 0 0)).run Try.prog w = .ok (.bool a.isNone) w := by
  cases a with
  | none => kernel_rfl
  | some a => kernel_rfl
theorem results_cell_row_tmp {P : Program} {fn : Func} {p u : Tmp} {ty : TypeId} (h : fn.results = #[.cell p ty, .tmp u]) (tmps : Array Value) (w : World) (g : Nat) (t : TypeId) (cs : Array Value) (fr : Nat × Nat) (d : TypeDesc)
    (hp : tmps.getD p undef = .pointer (some ⟨g, 0, none⟩)) (hg : w.heap[g]? = some (.cells cs t fr))
    (hu : P.underlying ty = some d) (hd : (match d with | .struct _ | .array _ _ => true | _ => false) = true) (hi : (P.info? ty).map (·.size) = some cs.size) :
    (results fn tmps).run P w = .ok (.tuple #[.agg cs, tmps.getD u undef]) w := by
  rw [results_cell_tmp h, hp]
  simp [asAddr, run_loadVar_row w g t ty cs fr d hg hu hd hi, Result.andThen]
theorem MV.Ok.letgo {G : Gh} {b : Nat} {mv : MV} (h : mv.Ok G) (hb : G.kd b = kMsg) : mv.Ok (G.put b kAny) := by
  have X : ∀ {i : Nat} {κ : Kd}, G.kd i = κ → κ.t ≠ 13 → (G.put b kAny).kd i = κ := fun {i κ} h h' => by
    rw [Gh.put_ne _ _ (fun e => by rw [e, hb] at h; rw [← h] at h'; exact h' rfl)]; exact h
  refine ⟨h.fr, ?_, ?_⟩
  · rcases h.ps with h | ⟨b1, n, c, h1, h2, h3⟩
    · exact .inl h
    · exact .inr ⟨b1, n, c, h1, X h2 (by simp), h3⟩
  · rcases h.an with h | ⟨b1, b2, n, c1, c2, h1, h2, h3, h4, h5⟩
    · exact .inl h
    · exact .inr ⟨b1, b2, n, c1, c2, h1, h2, X h3 (by simp), X h4 (by simp), h5⟩

/-- the zero message, told -/
def zMV : MV := ⟨0, 0, 0, 0, 0, ⟨#[]⟩, false, .slice none 0 0, .slice none 0 0, .slice none 0 0⟩
def FPost (G : Gh) (e : Ending) (w' : World) : Prop := ∃ (mv : MV) (ok : Bool) (G' : Gh), e = .returned (.tuple #[.agg mv.arr, .bool ok]) ∧ (ok = true → mv.Ok G') ∧ (ok = false → mv = zMV) ∧ Le 0 G G' ∧ Typed w' G'

/-- a local block becomes a message -/
theorem TypedE.to_msg {E w G r} {v0 v1 v2 v3 v4 v5 v6 v7 v8 v9 : Value} (T : TypedE E w G) (hz : G.kd r = kEx (.cells zMsg 44 (0, 0))) (hE : ¬ E r) (hb : G.w0.heap.size ≤ r) (mv : MV) (hm : mv.arr = #[v0, v1, v2, v3, v4, v5, v6, v7, v8, v9]) (ho : mv.Ok G) :
    TypedE E (((((((((((w).setCell ⟨r, 0, none⟩ v0).setCell ⟨r, 1, none⟩ v1).setCell ⟨r, 2, none⟩ v2).setCell ⟨r, 3, none⟩ v3).setCell ⟨r, 4, none⟩ v4).setCell ⟨r, 5, none⟩ v5).setCell ⟨r, 6, none⟩ v6).setCell ⟨r, 7, none⟩ v7).setCell ⟨r, 8, none⟩ v8).setCell ⟨r, 9, none⟩ v9) ((G.put r kAny).put r kMsg) := by
  have T1 := T.rekind (b := r) kAny (.inl (by rw [hz])) hb (fun _ _ _ => trivial) ⟨by simp, by simp, by simp, by simp, by simp⟩
  have k15 : ((G.put r kAny).kd r).t = 15 := by rw [Gh.put_at]
  have T2 := msg_typed T1 k15 v0 v1 v2 v3 v4 v5 v6 v7 v8 v9
  refine T2.rekind (b := r) kMsg (.inr (.inl k15)) hb (fun o h _ => ?_) ⟨by simp, by simp, by simp, by simp, by simp⟩
  have e := msg_store (T.exact hz hE) v0 v1 v2 v3 v4 v5 v6 v7 v8 v9
  rw [e] at h
  cases h
  exact ⟨mv, by rw [hm], (ho.ext (Ext.put _ (.inr (.inl (by rw [hz]))))).ext (Ext.put _ (.inr (.inr k15)))⟩

set_option maxHeartbeats 8000000 in
set_option maxRecDepth 100000 in
theorem c14 {w G x} (T : Typed w G) (hx : x < G.k) : Calls Try.prog 14 #[.pointer (some ⟨(G.lay x).nb, 0, none⟩)] w fun e w' => FPost G e w' := by
  have hfree : (G.kd w.heap.size).t = 0 := by rw [T.T.fr _ (Nat.le_refl _)]
  obtain ⟨G1, L1, T1, hz1⟩ : ∃ G1, Le 0 G G1 ∧ Typed (w.alloc (.cells zMsg 44)) G1 ∧ G1.kd w.heap.size = kEx (.cells zMsg 44 (0, 0)) :=
    ⟨G.put w.heap.size (kEx (.cells zMsg 44 (0, 0))), Le.put _ hfree, ⟨T.T.alloc _ rfl ⟨by simp, by simp, by simp, by simp, by simp⟩, T.A⟩, Gh.put_at _ _ _⟩
  have hx1 : x < G1.k := by rw [L1.k]; exact hx
  have hl1 : G1.lay = G.lay := L1.lay
  have hb0 : G1.w0.heap.size ≤ w.heap.size := by rw [L1.w0]; exact T.T.size
  obtain ⟨v, vo, n⟩ := T1.T.node hx1 id
  have nc0 := n.c0
  have nc14 := n.c14
  rw [hl1] at nc0 nc14
  have C28 : Hid (Calls Try.prog 28 #[.pointer (some ⟨(G.lay x).nb, 0, none⟩), .bool v.wh] (w.alloc (.cells zMsg 44)).drew fun e w' => HPost G1 e w') := by rw [← hl1]; exact c28 ⟨T1.T.drew, T1.A⟩ hx1
  have ZZ := hid (And.intro hfree (And.intro L1 (And.intro hz1 hb0)))
  generalize hW : w.alloc (.cells zMsg 44) = W at *
  clear T T1 hfree L1 hz1 hb0 n vo
  have hW' : w.alloc (.cells #[.int .u8 0, .string ⟨#[]⟩, .int .u64 0, .int .u64 0, .bool false, .int .u64 0, .int .u64 0, .slice none 0 0, .slice none 0 0, .slice none 0 0] 44) = W := hW
  generalize hr : w.heap.size = r at *
  go_enter Try.func14, Try.ntmps14
  go_upto_region 1 with fail
  clear hW hr hW'
  go_cut [5] (fun s wd => ∃ G3, Le 0 G G3 ∧ Typed wd G3 ∧ G3.kd r = kMsg)
  case first =>
    --<a
    go_region_with (go_at_call 28; refine C28.out.mono ?_; rintro e w6 ⟨pv, G6, rfl, L6, T9, hE⟩; obtain ⟨a7, n7, c7, hpv, -, -⟩ := hE.shape; subst hpv; have hz6 := L6.up ZZ.out.2.2.1 (by simp) (by simp) (by simp); have zo := T9.T.exact hz6 id; have zc := fun i => (cell_of zo i); have zf := fz_of zo; have z0 := (zc 0).trans (rfl : _ = some (Value.int .u8 0)); have z1 := (zc 1).trans (rfl : _ = some (Value.string ⟨#[]⟩)); have z2 := (zc 2).trans (rfl : _ = some (Value.int .u64 0)); have z3 := (zc 3).trans (rfl : _ = some (Value.int .u64 0)); have z4 := (zc 4).trans (rfl : _ = some (Value.bool false)); have z5 := (zc 5).trans (rfl : _ = some (Value.int .u64 0)); have z6 := (zc 6).trans (rfl : _ = some (Value.int .u64 0)); have z7 := (zc 7).trans (rfl : _ = some (Value.slice none 0 0)); have z8 := (zc 8).trans (rfl : _ = some (Value.slice none 0 0)); have z9 := (zc 9).trans (rfl : _ = some (Value.slice none 0 0)); obtain ⟨v6, vo6, n6⟩ := T9.T.node (by rw [L6.k]; exact hx1) id; have mc0 := n6.c0; rw [L6.lay, hl1] at mc0; have FIN := hid (And.intro L6 (And.intro T9 (And.intro hE hz6))); clear n6 vo6 L6 T9 hE hz6 zo zc)
    all_goals
      go_wp2_with fail
      go_meet
      case rel =>
        obtain ⟨L6, T9, hE, hz6⟩ := FIN.out
        have TT := T9.T.to_msg hz6 id (by rw [L6.w0]; exact ZZ.out.2.2.2) ⟨3, 0, 0, 0, 0, nm x, false, .slice a7 n7 c7, .slice none 0 0, .slice none 0 0⟩ rfl ⟨⟨x, by rw [L6.k]; exact hx1, rfl⟩, hE, .inl ⟨rfl, rfl⟩⟩
        exact ⟨_, (((ZZ.out.2.1.trans L6).mono (Nat.le_refl 0)).turn kAny ZZ.out.1).turn kMsg ZZ.out.1, ⟨TT, T9.A⟩, Gh.put_at _ _ _⟩
    -->a
  case rest =>
    obtain ⟨G3, L3, T3, hm3⟩ := hcut
    clear C28 nc0 nc14
    have hx3 : x < G3.k := by rw [L3.k]; exact hx
    have hl3 : G3.lay = G.lay := L3.lay
    obtain ⟨v3, vo3, n3⟩ := T3.T.node hx3 id
    have nc21 := n3.c21
    have nc19 := n3.c19
    have nf := n3.fz
    rw [hl3] at nc21 nc19 nf
    obtain ⟨mv, mo, m⟩ := T3.T.msg hm3 id
    have m3 := m.c3
    have m4 := m.c4
    have mf := m.fz
    have ne : (G.lay x).nb ≠ r := by rw [← hl3]; exact kd_ne (T3.T.nb x hx3) hm3 (by simp)
    have ne2 := ne.symm
    have A := hid T3
    have M3 := hid hm3
    have LL := hid L3
    have N21 := fun z => hid (T3.T.n21 (x := x) (z := z) hx3)
    clear n3 vo3 m mo T3 hm3 L3
    go_upto_if 18 with fail
    go_cut [19] (fun s wd => Typed wd G3)
    case first =>
      --<b
      cases hs : v3.sn
      · rw [hs] at nc21
        clear hs
        go_wp2_with fail
        go_meet
        case rel => exact A.out
      · rw [hs] at nc21
        clear hs
        go_wp2_with fail
        go_meet
        case rel =>
          have TT := ((A.out.T.m3 (z := v3.wa) M3.out).m4 (z := true) M3.out).n21 (x := x) (z := false) hx3
          rw [hl3] at TT
          exact ⟨TT, A.out.A⟩
      -->b
    case rest =>
      have T4 := hcut
      clear nc21 nc19 nf m3 m4 mf A N21 hcut
      have C29 : Hid (Calls Try.prog 29 #[.pointer (some ⟨(G.lay x).nb, 0, none⟩), .pointer (some ⟨r, 0, none⟩)] wc fun e w' => Un 0 G3 e w') := by rw [← hl3]; exact c29 T4 hx3 M3.out
      clear T4
      go_wp2_with fail
      refine C29.out.mono ?_
      rintro e w7 ⟨rfl, G7, L7, T10⟩
      clear C29
      have hm7 : G7.kd r = kMsg := L7.up M3.out (by simp) (by simp) (by simp)
      obtain ⟨o, ho, mv7, rfl, mo⟩ := T10.T.obj hm7 (by simp) id
      obtain ⟨mv, -, m⟩ := T10.T.msg hm7 id
      obtain ⟨p1, p2, p3, hps, -, -⟩ := mo.ps.shape
      obtain ⟨a1, a2, a3, a4, a5, a6, han, hrs⟩ := mo.an.shape
      have m0 := (cell_of ho 0).trans (rfl : _ = some (Value.int .u8 mv7.kn))
      have m1 := (cell_of ho 1).trans (rfl : _ = some (Value.string mv7.fr))
      have m2 := (cell_of ho 2).trans (rfl : _ = some (Value.int .u64 mv7.rd))
      have m3 := (cell_of ho 3).trans (rfl : _ = some (Value.int .u64 mv7.wa))
      have m4 := (cell_of ho 4).trans (rfl : _ = some (Value.bool mv7.su))
      have m5 := (cell_of ho 5).trans (rfl : _ = some (Value.int .u64 mv7.ho))
      have m6 := (cell_of ho 6).trans (rfl : _ = some (Value.int .u64 mv7.dg))
      have m7 := (cell_of ho 7).trans (rfl : _ = some mv7.ps)
      have m8 := (cell_of ho 8).trans (rfl : _ = some mv7.an)
      have m9 := (cell_of ho 9).trans (rfl : _ = some mv7.rs)
      have mf := fz_of ho
      rw [hps] at m7
      rw [han] at m8
      rw [hrs] at m9
      have k15 : ((G7.put r kAny).kd r).t = 15 := by rw [Gh.put_at]
      have A := hid (And.intro (((LL.out.trans L7).mono (Nat.le_refl 0)).turn kAny ZZ.out.1) (And.intro (T10.T.letgo hm7) (And.intro (mo.letgo hm7) T10.A)))
      have E := hid (And.intro hps (And.intro han hrs))
      have HO := hid ho
      clear T10 L7 mo m ho hps han hrs hm7 LL
      have n41 := nil41
      have n33 := nil33
      cases p1 with
      | some p1 =>
        go_wp2_with fail
        refine bodyPost_ret (results_cell_row_tmp (P := Try.prog) (ty := 44) rfl _ _ r 44 mv7.arr (0, 0) _ rfl (by unfold MV.arr; rw [E.out.1, E.out.2.1, E.out.2.2]; exact msg_store HO.out _ _ _ _ _ _ _ _ _ _) Try.underlying44 rfl info44) rfl ?_
        exact ⟨mv7, true, _, rfl, fun _ => A.out.2.2.1, (fun h => by cases h), A.out.1, msg_typed A.out.2.1 k15 _ _ _ _ _ _ _ _ _ _, A.out.2.2.2⟩
      | none =>
        cases a1 with
        | some a1 =>
          go_wp2_with fail
          refine bodyPost_ret (results_cell_row_tmp (P := Try.prog) (ty := 44) rfl _ _ r 44 mv7.arr (0, 0) _ rfl (by unfold MV.arr; rw [E.out.1, E.out.2.1, E.out.2.2]; exact msg_store HO.out _ _ _ _ _ _ _ _ _ _) Try.underlying44 rfl info44) rfl ?_
          exact ⟨mv7, true, _, rfl, fun _ => A.out.2.2.1, (fun h => by cases h), A.out.1, msg_typed A.out.2.1 k15 _ _ _ _ _ _ _ _ _ _, A.out.2.2.2⟩
        | none =>
          cases hs : mv7.su
          · rw [hs] at m4
            clear hs
            go_wp2_with fail
            refine bodyPost_ret (results_cell_row_tmp (P := Try.prog) (ty := 44) rfl _ _ r 44 zMV.arr (0, 0) _ rfl (msg_store HO.out _ _ _ _ _ _ _ _ _ _) Try.underlying44 rfl info44) rfl ?_
            exact ⟨zMV, false, _, rfl, (fun h => by cases h), fun _ => rfl, A.out.1, msg_typed A.out.2.1 k15 _ _ _ _ _ _ _ _ _ _, A.out.2.2.2⟩
          · have m4' := m4
            rw [hs] at m4
            have HS := hid hs
            clear hs m4'
            go_wp2_with fail
            refine bodyPost_ret (results_cell_row_tmp (P := Try.prog) (ty := 44) rfl _ _ r 44 mv7.arr (0, 0) _ rfl (by unfold MV.arr; rw [HS.out, E.out.1, E.out.2.1, E.out.2.2]; exact msg_store HO.out _ _ _ _ _ _ _ _ _ _) Try.underlying44 rfl info44) rfl ?_
            exact ⟨mv7, true, _, rfl, fun _ => A.out.2.2.1, (fun h => by cases h), A.out.1, msg_typed A.out.2.1 k15 _ _ _ _ _ _ _ _ _ _, A.out.2.2.2⟩
end Go.Proofs.Qxb6002353a
