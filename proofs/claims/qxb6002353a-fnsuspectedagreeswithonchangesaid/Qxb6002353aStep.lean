/-
  SEAT b6002353a: Deliver, MaskAt, Step.
-/
import Derived.Test.Qxb6002353aRecv
import Derived.Test.Qxb6002353aQuery
import Derived.Test.Qxb6002353aFlush
namespace Go.Proofs.Qxb6002353a
open Go.RowKit
set_option linter.unusedVariables false
set_option linter.unusedSimpArgs false

/-- the row of the nodes -/
def NodesOk (G : Gh) (b : Nat) : Prop := ∃ arr : Array Value, G.kd b = kEx (.cells arr 34 (0, 0)) ∧ ∀ x, x < G.k → arr[x]? = some (.pointer (some ⟨(G.lay x).nb, 0, none⟩))
theorem NodesOk.le {c G G' b} (h : NodesOk G b) (L : Le c G G') : NodesOk G' b := by
  obtain ⟨arr, h1, h2⟩ := h
  exact ⟨arr, L.up h1 (by simp) (by simp) (by simp), fun x hx => by rw [L.lay]; exact h2 x (by rw [← L.k]; exact hx)⟩
theorem NodesOk.cell {E w G b x} (h : NodesOk G b) (T : TypedE E w G) (hE : ¬ E b) (hx : x < G.k) : w.cell? ⟨b, x, none⟩ = some (.pointer (some ⟨(G.lay x).nb, 0, none⟩)) := by
  obtain ⟨arr, h1, h2⟩ := h
  exact (cell_of (T.exact h1 hE) _).trans (h2 x hx)

set_option maxHeartbeats 8000000 in
set_option maxRecDepth 100000 in
theorem c25 {w G nbk i} {mv : MV} {ms : Int} (T : Typed w G) (hN : NodesOk G nbk) (mo : mv.Ok G) (ht : G.t + 30 ≤ 100000) : Calls Try.prog 25 #[.slice (some ⟨nbk, 0, none⟩) G.k G.k, .int .i64 (i : Nat), .agg mv.arr, .int .u8 ms] w fun e w' => Un 30 G e w' := by
  have hf := T.T.fr _ (Nat.le_refl _)
  obtain ⟨G1, L1, T1, hm1, ht1⟩ : ∃ G1, Le 0 G G1 ∧ Typed (w.alloc (.cells mv.arr 44)) G1 ∧ G1.kd w.heap.size = kEx (.cells mv.arr 44 (0, 0)) ∧ G1.t = G.t :=
    ⟨G.put w.heap.size (kEx (.cells mv.arr 44 (0, 0))), Le.put _ (by rw [hf]), ⟨T.T.alloc _ rfl ⟨by simp, by simp, by simp, by simp, by simp⟩, T.A⟩, Gh.put_at _ _ _, rfl⟩
  have hk1 : G1.k = G.k := L1.k
  have hk5 : G.k ≤ 5 := T.T.k5
  obtain ⟨p1, p2, p3, hps, -, -⟩ := mo.ps.shape
  obtain ⟨a1, a2, a3, a4, a5, a6, han, hrs⟩ := mo.an.shape
  have harr : mv.arr = #[.int .u8 mv.kn, .string mv.fr, .int .u64 mv.rd, .int .u64 mv.wa, .bool mv.su, .int .u64 mv.ho, .int .u64 mv.dg, .slice p1 p2 p3, .slice a1 a2 a3, .slice a4 a5 a6] := by unfold MV.arr; rw [hps, han, hrs]
  have mo1 := mo.le L1
  have hN1 := hN.le L1
  have AA := hid (And.intro L1 (And.intro hm1 (And.intro T1 (And.intro (ht1 ▸ ht) (And.intro mo1 hN1)))))
  generalize hW : w.alloc (.cells mv.arr 44) = W at *
  have HA := hid harr
  rw [harr] at hW ⊢
  clear T T1 mo hf L1 hm1 ht ht1 hps han hrs harr hN mo1 hN1
  generalize hr : w.heap.size = r at *
  generalize hkk : G.k = k at *
  go_enter Try.func25, Try.ntmps25
  go_wp2_with fail
  clear hW hr
  go_loopg [8] k (fun kk j wr => ∃ (jj : Nat) (G2 : Gh), jj + kk = k ∧ j = .int .i64 jj ∧ Le (6 * jj) G1 G2 ∧ Typed wr G2)
  case atStart => exact ⟨0, G1, by omega, rfl, Le.refl G1, AA.out.2.2.1⟩
  case round =>
    obtain ⟨jj, G2, hj, rfl, L2, T2⟩ := hrel
    by_cases hlt : jj < k
    · have hlt' : (jj : Int) < (k : Int) := by omega
      have hj8 : (jj : Int) < 8 := by omega
      have hxj : jj < G2.k := by rw [L2.k, hk1]; exact hlt
      have hN2 := (AA.out.2.2.2.2.2.le L2)
      have nc := hN2.cell T2.T id hxj
      have hm2 : G2.kd r = kEx (.cells mv.arr 44 (0, 0)) := L2.up AA.out.2.1 (by simp) (by simp) (by simp)
      have mob := T2.T.exact hm2 id
      rw [HA.out] at mob
      have m0 := (cell_of mob 0).trans (rfl : _ = some (Value.int .u8 mv.kn))
      have m1 := (cell_of mob 1).trans (rfl : _ = some (Value.string mv.fr))
      have m2 := (cell_of mob 2).trans (rfl : _ = some (Value.int .u64 mv.rd))
      have m3 := (cell_of mob 3).trans (rfl : _ = some (Value.int .u64 mv.wa))
      have m4 := (cell_of mob 4).trans (rfl : _ = some (Value.bool mv.su))
      have m5 := (cell_of mob 5).trans (rfl : _ = some (Value.int .u64 mv.ho))
      have m6 := (cell_of mob 6).trans (rfl : _ = some (Value.int .u64 mv.dg))
      have m7 := (cell_of mob 7).trans (rfl : _ = some (Value.slice p1 p2 p3))
      have m8 := (cell_of mob 8).trans (rfl : _ = some (Value.slice a1 a2 a3))
      have m9 := (cell_of mob 9).trans (rfl : _ = some (Value.slice a4 a5 a6))
      have hj2 := L2.t1
      have hts := AA.out.2.2.2.1
      have C19 : Hid (Calls Try.prog 19 #[.pointer (some ⟨(G2.lay jj).nb, 0, none⟩), .agg #[.int .u8 mv.kn, .string mv.fr, .int .u64 mv.rd, .int .u64 mv.wa, .bool mv.su, .int .u64 mv.ho, .int .u64 mv.dg, .slice p1 p2 p3, .slice a1 a2 a3, .slice a4 a5 a6]] wr.drew fun e w' => Un 6 G2 e w') := by
        rw [← HA.out]; exact c19 ⟨T2.T.drew, T2.A⟩ hxj (AA.out.2.2.2.2.1.le L2) (by omega)
      have A := hid T2
      have LL := hid L2
      have J := hid hj
      clear T2 L2 hm2 mob hN2 hj hj2 hts
      by_cases hji : jj = i
      · subst hji
        clear nc m0 m1 m2 m3 m4 m5 m6 m7 m8 m9 C19
        go_wp2_with fail
        go_roundg (gk - 1)
        case measure => have := J.out; omega
        case rel => exact ⟨jj + 1, G2, by have := J.out; omega, rfl, LL.out.mono (by omega), A.out⟩
      · have hji' : ((jj : Int) != (i : Int)) = true := by simp; omega
        go_wp2_with fail
        all_goals
          first
            | (go_roundg (gk - 1)
               case measure => have := J.out; omega
               case rel => exact ⟨jj + 1, G2, by have := J.out; omega, rfl, LL.out.mono (by omega), A.out⟩)
            | (go_region_with (go_at_call 19; refine C19.out.mono ?_; rintro e w3 ⟨rfl, G3, L3, T3⟩; have X := hid (And.intro L3 T3); clear L3 T3)
               all_goals
                 go_wp2_with fail
                 go_roundg (gk - 1)
                 case measure => have := J.out; omega
                 case rel => exact ⟨jj + 1, G3, by have := J.out; omega, rfl, (LL.out.trans X.out.1).mono (by omega), X.out.2⟩)
    · have hge : (k : Int) ≤ (jj : Int) := by omega
      have X := hid (And.intro L2 T2)
      have J := hid hj
      clear L2 T2 hj
      go_wp2_with fail
      go_end0
      exact ⟨rfl, G2, (AA.out.1.trans X.out.1).mono (by have := J.out; omega), X.out.2⟩

set_option maxHeartbeats 1000000 in
theorem c10 {ad : Option Addr} {n c j : Nat} {w : World} (hj : j ≤ 1000) (CELL : j < n → ∃ rb z, ad = some ⟨rb, 0, none⟩ ∧ w.cell? ⟨rb, j, none⟩ = some (.int .u8 z)) : Calls Try.prog 10 #[.slice ad n c, .int .i64 j] w fun e w' => ∃ z, e = .returned (.int .u8 z) ∧ w' = w := by
  by_cases h : j < n
  · obtain ⟨rb, z, rfl, hc⟩ := CELL h
    have h' : (j : Int) < (n : Int) := by omega
    clear CELL
    go_enter Try.func10, Try.ntmps10
    go_wp2_with fail
    go_ret
    exact ⟨_, rfl, rfl⟩
  · have h' : (n : Int) ≤ (j : Int) := by omega
    clear CELL
    go_enter Try.func10, Try.ntmps10
    go_wp2_with fail
    go_ret
    exact ⟨_, rfl, rfl⟩

theorem MV.lit {G : Gh} {mv : MV} (mo : mv.Ok G) : ∃ p1 p2 p3 a1 a2 a3 a4 a5 a6, mv.arr = #[.int .u8 mv.kn, .string mv.fr, .int .u64 mv.rd, .int .u64 mv.wa, .bool mv.su, .int .u64 mv.ho, .int .u64 mv.dg, .slice p1 p2 p3, .slice a1 a2 a3, .slice a4 a5 a6] := by
  obtain ⟨p1, p2, p3, hps, -, -⟩ := mo.ps.shape
  obtain ⟨a1, a2, a3, a4, a5, a6, han, hrs⟩ := mo.an.shape
  exact ⟨p1, p2, p3, a1, a2, a3, a4, a5, a6, by unfold MV.arr; rw [hps, han, hrs]⟩

set_option maxHeartbeats 8000000 in
set_option maxRecDepth 100000 in
theorem c9 {w G nbk i} {a ms : Int} (T : Typed w G) (hN : NodesOk G nbk) (hi : i < G.k) (ht : G.t + 40 ≤ 100000) : Calls Try.prog 9 #[.slice (some ⟨nbk, 0, none⟩) G.k G.k, .int .i64 (i : Nat), .int .i64 a, .int .u8 ms] w fun e w' => Un 35 G e w' := by
  have nc := hN.cell T.T id hi
  have hi' : (i : Int) < (G.k : Int) := by omega
  have hk5 : G.k ≤ 5 := T.T.k5
  have HT := hid ht
  have HN := hid hN
  by_cases h0 : a = 0
  · subst h0
    --<a
    have C17 := hid (c17 T hi (by omega))
    clear T hN ht
    generalize hkk : G.k = k at *
    go_enter Try.func9, Try.ntmps9
    go_wp2_with fail
    refine C17.out.mono ?_
    rintro e w1 ⟨mv, G1, rfl, mo, L1, T1⟩
    obtain ⟨p1, p2, p3, a1, a2, a3, a4, a5, a6, harr⟩ := MV.lit mo
    have hf := T1.T.fr _ (Nat.le_refl _)
    have T2 : Typed (w1.alloc (.cells mv.arr 44)) (G1.put w1.heap.size kAny) := ⟨T1.T.alloc kAny trivial ⟨by simp, by simp, by simp, by simp, by simp⟩, T1.A⟩
    have L2 : Le 0 G1 (G1.put w1.heap.size kAny) := Le.put _ (by rw [hf])
    have C25 := hid (c25 (i := i) (mv := mv) (ms := ms) T2 ((HN.out.le L1).le L2) (mo.le L2) (by show G1.t + 30 ≤ 100000; have := L1.t1; have := HT.out; omega))
    have hk1 : (G1.put w1.heap.size kAny).k = k := by rw [← hkk]; exact L1.k
    rw [hk1, harr] at C25
    have LL := hid (L1.trans L2)
    rw [harr]
    clear C17 T1 T2 L1 L2 mo hf nc harr
    go_wp2_with fail
    refine C25.out.mono ?_
    rintro e w3 ⟨rfl, G3, L3, T3⟩
    have X := hid (And.intro (LL.out.trans L3) T3)
    clear L3 T3 C25
    go_wp2_with fail
    go_end0
    exact ⟨rfl, G3, X.out.1.mono (by omega), X.out.2⟩
    -->a
  · have h0' : (a == 0) = false := by simp [h0]
    by_cases h1 : a = 1
    · subst h1
      --<b
      have C17 := hid (c17 T hi (by omega))
      clear T hN ht
      generalize hkk : G.k = k at *
      go_enter Try.func9, Try.ntmps9
      go_wp2_with fail
      refine C17.out.mono ?_
      rintro e w1 ⟨mv, G1, rfl, mo, L1, T1⟩
      have hi1 : i < G1.k := by rw [L1.k]; omega
      have nc1 := (HN.out.le L1).cell T1.T id hi1
      have C26 := hid (c26 T1 hi1)
      have LL := hid L1
      obtain ⟨p1, p2, p3, a1, a2, a3, a4, a5, a6, harr⟩ := MV.lit mo
      rw [harr]
      clear C17 T1 L1 mo nc harr
      go_wp2_with fail
      refine C26.out.mono ?_
      rintro e w3 ⟨rfl, T3⟩
      have X := hid T3
      clear T3 C26
      go_wp2_with fail
      go_end0
      exact ⟨rfl, G1, LL.out.mono (by omega), X.out⟩
      -->b
    · have h1' : (a == 1) = false := by simp [h1]
      have C14 := hid (c14 T hi)
      by_cases h2 : a = 2
      · subst h2
        --<c
        clear T hN ht
        generalize hkk : G.k = k at *
        go_enter Try.func9, Try.ntmps9
        go_wp2_with fail
        refine C14.out.mono ?_
        rintro e w1 ⟨mv, ok, G1, rfl, mo, mz, L1, T1⟩
        cases ok
        · have hz := mz rfl
          subst hz
          have T2 : Typed (w1.alloc (.cells zMV.arr 44)) (G1.put w1.heap.size kAny) := ⟨T1.T.alloc kAny trivial ⟨by simp, by simp, by simp, by simp, by simp⟩, T1.A⟩
          have L2 : Le 0 G1 (G1.put w1.heap.size kAny) := Le.put _ (by rw [T1.T.fr _ (Nat.le_refl _)])
          have X := hid (And.intro (L1.trans L2) T2)
          have harr : zMV.arr = #[.int .u8 0, .string ⟨#[]⟩, .int .u64 0, .int .u64 0, .bool false, .int .u64 0, .int .u64 0, .slice none 0 0, .slice none 0 0, .slice none 0 0] := rfl
          rw [harr]
          clear C14 T1 T2 L1 L2 mo mz nc harr
          go_wp2_with fail
          go_end0
          exact ⟨rfl, _, X.out.1.mono (by omega), X.out.2⟩
        · obtain ⟨p1, p2, p3, a1, a2, a3, a4, a5, a6, harr⟩ := MV.lit (mo rfl)
          have hf := T1.T.fr _ (Nat.le_refl _)
          have T2 : Typed (w1.alloc (.cells mv.arr 44)) (G1.put w1.heap.size kAny) := ⟨T1.T.alloc kAny trivial ⟨by simp, by simp, by simp, by simp, by simp⟩, T1.A⟩
          have L2 : Le 0 G1 (G1.put w1.heap.size kAny) := Le.put _ (by rw [hf])
          have C25 := hid (c25 (i := i) (mv := mv) (ms := ms) T2 ((HN.out.le L1).le L2) ((mo rfl).le L2) (by show G1.t + 30 ≤ 100000; have := L1.t1; have := HT.out; omega))
          have hk1 : (G1.put w1.heap.size kAny).k = k := by rw [← hkk]; exact L1.k
          rw [hk1, harr] at C25
          have LL := hid (L1.trans L2)
          rw [harr]
          clear C14 T1 T2 L1 L2 mo mz hf nc harr
          go_wp2_with fail
          refine C25.out.mono ?_
          rintro e w3 ⟨rfl, G3, L3, T3⟩
          have X := hid (And.intro (LL.out.trans L3) T3)
          clear L3 T3 C25
          go_wp2_with fail
          go_end0
          exact ⟨rfl, G3, X.out.1.mono (by omega), X.out.2⟩
        -->c
      · have h2' : (a == 2) = false := by simp [h2]
        --<d
        clear T hN ht h0 h1 h2
        generalize hkk : G.k = k at *
        go_enter Try.func9, Try.ntmps9
        go_wp2_with fail
        refine C14.out.mono ?_
        rintro e w1 ⟨mv, ok, G1, rfl, mo, mz, L1, T1⟩
        have X := hid (And.intro L1 T1)
        clear L1 T1 C14 mo mz
        go_wp2_with fail
        go_end0
        exact ⟨rfl, G1, X.out.1.mono (by omega), X.out.2⟩
        -->d
end Go.Proofs.Qxb6002353a
