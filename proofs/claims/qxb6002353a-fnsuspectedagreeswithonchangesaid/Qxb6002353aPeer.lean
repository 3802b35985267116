/-
  SEAT b6002353a: peer.
-/
import Derived.Test.Qxb6002353aInsRow
namespace Go.Proofs.Qxb6002353a
open Go.RowKit
open Go.ChangeMaps (setBlock)
set_option linter.unusedVariables false
set_option linter.unusedSimpArgs false

theorem setBlock_ne {w : World} {b b' : Nat} {o : Obj} (h : b' ≠ b) : (setBlock w b o).heap[b']? = w.heap[b']? := by
  simp only [setBlock]
  rw [Array.getElem?_setIfInBounds, if_neg (fun e => h e.symm)]
/-- one peer more -/
def Gh.more (G : Gh) (x : Nat) : Gh := { G with bn := fun y => if y = x then G.bn x + 1 else G.bn y }
/-- the peers: a new one; nothing but the map's block turns -/
theorem upd_pmB {w G x} (T : Typed0 w G) (hx : x < G.k) {s : ByteArray} {b : Nat} (hb : G.kd b = kPeer x s) (hnew : ∃ es c, w.heap[(G.lay x).pm]? = some (.map es c) ∧ ∀ e ∈ es.toList, e.key ≠ Value.string s) :
    ∃ o, (Instr.mapUpdate 59 (.map (some (G.lay x).pm)) (.string s) (.pointer (some ⟨b, 0, none⟩))).run Try.prog w = .ok () (setBlock w (G.lay x).pm o) ∧ Typed0 (setBlock w (G.lay x).pm o) (G.more x) := by
  obtain ⟨w', h1, h2⟩ := upd_pm T hx hb hnew
  obtain ⟨ob, k1, es, c, rfl, k2, k3, -⟩ := T.obj (T.pm x hx) (by simp) id
  obtain ⟨es', c', k4, -⟩ := upd_any Try.underlying59 k1 k2 (fun e he => by obtain ⟨s, _, k, _⟩ := k3 e he; rw [k]; trivial) s (.pointer (some ⟨b, 0, none⟩))
  rw [k4] at h1
  cases h1
  exact ⟨_, k4, h2⟩

def zPV : PV := ⟨0, 0, 0, 0, 0, 0, false, false, false, false, false, false, false, false⟩
def PPost (G : Gh) (x : Nat) (s : ByteArray) (e : Ending) (w' : World) : Prop := ∃ (b : Nat) (G' : Gh), e = .returned (.pointer (some ⟨b, 0, none⟩)) ∧ Le 0 G G' ∧ Typed w' G' ∧ G'.kd b = kPeer x s

set_option maxHeartbeats 4000000 in
set_option maxRecDepth 100000 in
theorem c35 {w G x s} (T : Typed w G) (hx : x < G.k) (hs : ID G s) : Calls Try.prog 35 #[.pointer (some ⟨(G.lay x).nb, 0, none⟩), .string s] w fun e w' => PPost G x s e w' := by
  obtain ⟨v, vo, n⟩ := T.T.node hx id
  have nc4 := n.c4
  obtain ⟨p, look, hp1, hp2, hp3⟩ := look_pm T.T hx id s
  have look0 : (Instr.lookup 59 (.map (some (G.lay x).pm)) (.string s) false).run Try.prog w = .ok (.pointer p) w := look 0
  clear look
  rcases hp1 with rfl | ⟨b, rfl, hb⟩
  · have hsx : s ≠ nm x := fun e => by have := hp2 e; cases this
    obtain ⟨es, c, hpm, hno⟩ := hp3 rfl
    have hf := T.T.fr _ (Nat.le_refl _)
    have T1 : Typed (w.alloc (.cells (zPV.arr s) 73)) (G.put w.heap.size (kPeer x s)) := ⟨T.T.alloc (kPeer x s) ⟨zPV, rfl, hs, fun e => absurd e hsx⟩ ⟨by simp, by simp, by simp, (fun _ => hsx), by simp⟩, T.A⟩
    have L1 : Le 0 G (G.put w.heap.size (kPeer x s)) := Le.put _ (by rw [hf])
    have hl1 : (G.put w.heap.size (kPeer x s)).lay = G.lay := rfl
    have hp1 : (G.put w.heap.size (kPeer x s)).kd w.heap.size = kPeer x s := Gh.put_at _ _ _
    have hb1 : (G.put w.heap.size (kPeer x s)).bn = G.bn := rfl
    have hx1 : x < (G.put w.heap.size (kPeer x s)).k := hx
    have hpm1 : ∃ es c, (w.alloc (.cells (zPV.arr s) 73)).heap[(G.lay x).pm]? = some (.map es c) ∧ ∀ e ∈ es.toList, e.key ≠ Value.string s := ⟨es, c, (alloc_lt _ _ (T.T.lt (T.T.pm x hx) (by simp))).trans hpm, hno⟩
    generalize G.put w.heap.size (kPeer x s) = G1 at *
    generalize hW1 : w.alloc (.cells (zPV.arr s) 73) = W1 at *
    have hW1' : w.alloc (.cells #[.string s, .bool false, .int .u64 0, .int .u64 0, .bool false, .bool false, .bool false, .bool false, .int .u64 0, .int .u64 0, .int .u64 0, .bool false, .int .u64 0, .bool false, .bool false] 73) = W1 := hW1
    obtain ⟨o, hupd, T2⟩ := upd_pmB T1.T hx1 hp1 (by rw [hl1]; exact hpm1)
    obtain ⟨v1, vo1, n1⟩ := T1.T.node hx1 id
    have d4 := n1.c4
    rw [hl1] at d4
    have ob1 := T1.T.obj (T1.T.nb x hx1) (by simp) id
    obtain ⟨rb, n0, n', c', hby, hkr, h5, h6, h7⟩ := vo1.by_
    have d5 : (setBlock W1 (G1.lay x).pm o).cell? ⟨(G.lay x).nb, 5, none⟩ = some (.slice (some ⟨rb, 0, none⟩) n0 c') := by
      have e := n1.c5
      rw [hby, hl1] at e
      rw [← e]
      have := setBlock_ne (w := W1) (o := o) (kd_ne (T1.T.nb x hx1) (T1.T.pm x hx1) (by simp))
      rw [hl1] at this
      simp only [World.cell?, hl1, this]
    rw [hl1] at hupd d5 T2
    have A2 : Agree (G1.more x) := T1.A
    have hk2 : (G1.more x).kd = G1.kd := rfl
    have hl2 : (G1.more x).lay = G.lay := hl1
    have hx2 : x < (G1.more x).k := hx1
    have hbn2 : (G1.more x).bn x = G1.bn x + 1 := if_pos rfl
    have L2 : Le 0 G (G1.more x) := ⟨L1.k, L1.w0, L1.lay, L1.t0, L1.t1, L1.kd⟩
    generalize (G1.more x) = G2 at *
    generalize setBlock W1 (G.lay x).pm o = W2 at *
    have hkr2 : G2.kd rb = kPar x n' c' := by rw [hk2]; exact hkr
    have hp2' : G2.kd w.heap.size = kPeer x s := by rw [hk2]; exact hp1
    have hn4 : n0 ≤ 4 := by have := T2.b5 x hx2; omega
    have C52 := hid (c52 (rb := rb) (n := n0) (c := c') (s := s) (w := W2) (by omega) (by omega) (fun i hi => by
      obtain ⟨ob, k1, arr, rfl, k2, k3⟩ := T2.obj hkr2 (by simp) id
      obtain ⟨p, t, j1, j2⟩ := k3 i (by show i < n'; omega)
      obtain ⟨pv, -, -, P⟩ := T2.peer j2 id
      exact ⟨p, t, by rw [cell_of k1]; exact j1, P.c0⟩))
    have hf2 := T2.fr _ (Nat.le_refl _)
    have T3 : Typed (W2.alloc (.cells #[.pointer (some ⟨w.heap.size, 0, none⟩)] 74)) (G2.put W2.heap.size (kEx (.cells #[.pointer (some ⟨w.heap.size, 0, none⟩)] 74 (0, 0)))) := ⟨T2.alloc _ rfl ⟨by simp, by simp, by simp, by simp, by simp⟩, A2⟩
    have C55 := fun (i : Nat) (hi : i ≤ n0) => hid (c55 (i := i) T3 (rb := rb) (by rw [Gh.put_ne _ _ (fun e => by rw [e, hf2] at hkr2; cases hkr2)]; exact hkr2) h5 h6 hn4 hi (by rw [Gh.put_ne _ _ (fun e => by rw [e, hf2] at hp2'; cases hp2')]; exact hp2') (Gh.put_at _ _ _))
    have L3 : Le 0 G (G2.put W2.heap.size (kEx (.cells #[.pointer (some ⟨w.heap.size, 0, none⟩)] 74 (0, 0)))) := (L2.trans (Le.put _ (by rw [hf2]))).mono (by omega)
    have hp3' : (G2.put W2.heap.size (kEx (.cells #[.pointer (some ⟨w.heap.size, 0, none⟩)] 74 (0, 0)))).kd w.heap.size = kPeer x s := by rw [Gh.put_ne _ _ (fun e => by rw [e, hf2] at hp2'; cases hp2')]; exact hp2'
    have hbn3 : (G2.put W2.heap.size (kEx (.cells #[.pointer (some ⟨w.heap.size, 0, none⟩)] 74 (0, 0)))).bn x = G1.bn x + 1 := hbn2
    generalize G2.put W2.heap.size (kEx (.cells #[.pointer (some ⟨w.heap.size, 0, none⟩)] 74 (0, 0))) = G3 at *
    have hnl : (G.lay x).nb < W2.heap.size := by rw [← hl2]; exact T2.lt (T2.nb x hx2) (by simp)
    have HB := hid (And.intro h7 (And.intro hbn3 (And.intro L3 hp3')))
    clear T T1 T2 T3 L1 L2 L3 hpm1 hpm hno hp2 hp3 hs hsx hf hf2 n vo n1 vo1 ob1 hby hkr hkr2 hp1 hp2' hp3' hb1 A2 hk2 hbn2 hbn3 h5 h6 h7 hW1
    generalize hr : w.heap.size = r at *
    go_enter Try.func35, Try.ntmps35
    go_wp2_with fail
    refine C52.out.mono ?_
    rintro e w' ⟨i, f, rfl, hi, rfl⟩
    clear hW1' hupd d4 C52 nc4 look0
    go_wp2_with fail
    refine (C55 i hi).out.mono ?_
    rintro e w4 ⟨b4, c4, n2, G4, rfl, L4, T4, hk4, h8, h9, h10⟩
    have hx4 : x < G4.k := by rw [L4.k, HB.out.2.2.1.k]; exact hx
    have hl4 : G4.lay = G.lay := L4.lay.trans HB.out.2.2.1.lay
    obtain ⟨v4, vo4, n4⟩ := T4.T.node hx4 id
    obtain ⟨q1, q2, q3, q4, hb4, -⟩ := vo4.by_
    have e5 := n4.c5
    rw [hb4] at e5
    have ef := n4.fz 5
    have FIN : Hid (Typed (w4.setCell ⟨(G4.lay x).nb, 5, none⟩ (.slice (some ⟨b4, 0, none⟩) (n0 + 1) c4)) G4) := ⟨T4.T.n5 hx4 ⟨b4, n0 + 1, n2, c4, rfl, hk4, h8, h9, by rw [h10, HB.out.2.1]; have := HB.out.1; omega⟩, T4.A⟩
    rw [hl4] at e5 ef
    have HL := hid (And.intro (HB.out.2.2.1.trans L4) (L4.up HB.out.2.2.2 (by simp) (by simp) (by simp)))
    clear L4 T4 hk4 h8 h9 h10 vo4 n4 hb4 C55 d5
    go_wp2_with fail
    go_ret
    exact ⟨r, G4, rfl, HL.out.1.mono (by omega), by rw [← hl4]; exact FIN.out, HL.out.2⟩
  · have A := hid (And.intro T hb)
    clear T hb hp2 hp3 n vo
    go_enter Try.func35, Try.ntmps35
    go_wp2_with fail
    go_ret
    exact ⟨b, G, rfl, Le.refl G, A.out⟩
end Go.Proofs.Qxb6002353a
