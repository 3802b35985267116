/-
  SEAT b6002353a: the recorder strikes a name.
-/
import Derived.Test.Qxb6002353aGrow
import Derived.Test.Qxb6002353aReads
import Derived.Deep.CutRange
import Derived.Deep.DeepCutAuto
namespace Go.Proofs.Qxb6002353a
open Go.RowKit
set_option linter.unusedVariables false
set_option linter.unusedSimpArgs false

theorem TypedE.recd {E w G x} (T : TypedE E w G) (hx : x < G.k) (hE : ¬ E (G.lay x).rb) : ∃ u v, w.heap[(G.lay x).rb]? = some (.cells #[u, .bool false, v] 38 (0, 0)) ∧ IdsOk G x u ∧ FrOk G x v := by
  obtain ⟨o, h1, u, v, rfl, h2, h3⟩ := T.obj (T.rb x hx) (by simp) hE
  exact ⟨u, v, h1, h2, h3⟩

/-- what a call of the recorder leaves -/
def OnPost (G : Gh) (x : Nat) (P : ByteArray → Prop) (e : Ending) (w' : World) : Prop := e = .returned (.tuple #[]) ∧ ∃ G' l, Le 1 G G' ∧ Typed0 w' G' ∧ G'.qs = G.qs ∧ (G'.rs = fun y => if y = x then l else G.rs y) ∧ ∀ t, t ∈ l ↔ P t

/-- the recorder's row is open: its block is left out, its row told by nobody -/
structure Open22 (G : Gh) (x g c : Nat) (n : Nat) (v : Value) (wr : World) (arr : Array Value) : Prop where
  T : TypedE (fun b => b = (G.lay x).rb) wr (G.put g kAny)
  hr : wr.heap[(G.lay x).rb]? = some (.cells #[.slice (some ⟨g, 0, none⟩) n c, .bool false, v] 38 (0, 0))
  hg : wr.heap[g]? = some (.cells arr 9 (0, 0))
  sz : arr.size = c

theorem setCell_other {w : World} {b i b' : Nat} {v : Value} (h : b' ≠ b) : (w.setCell ⟨b, i, none⟩ v).heap[b']? = w.heap[b']? := by rw [heap_setCell, if_neg h]
theorem setCell_at {w : World} {b i : Nat} {v : Value} {c e f} (h : w.heap[b]? = some (.cells c e f)) : (w.setCell ⟨b, i, none⟩ v).heap[b]? = some (.cells (c.setIfInBounds i v) e f) := by rw [heap_setCell, if_pos rfl, h]; rfl

theorem Open22.store {G x g c n v wr arr} (h : Open22 G x g c n v wr arr) (hne : g ≠ (G.lay x).rb) (i : Nat) (u : Value) : Open22 G x g c n v (wr.setCell ⟨g, i, none⟩ u) (arr.setIfInBounds i u) :=
  ⟨h.T.setE (.inr (by rw [Gh.put_at])), by rw [setCell_other hne.symm]; exact h.hr, setCell_at h.hg, by simp [h.sz]⟩
theorem Open22.drew {G x g c n v wr arr} (h : Open22 G x g c n v wr arr) : Open22 G x g c n v wr.drew arr := ⟨h.T.drew, h.hr, h.hg, h.sz⟩

theorem Open22.ids {G x g c n v wr arr} (h : Open22 G x g c n v wr arr) (hne : g ≠ (G.lay x).rb) (n' : Nat) : Open22 G x g c n' v (wr.setCell ⟨(G.lay x).rb, 0, none⟩ (.slice (some ⟨g, 0, none⟩) n' c)) arr :=
  ⟨h.T.setE (.inl rfl), by rw [setCell_at h.hr]; rfl, by rw [setCell_other hne]; exact h.hg, h.sz⟩
/-- shut again -/
theorem Open22.shut {G x g c n v wr arr} (h : Open22 G x g c n v wr arr) (hx : x < G.k) (l : List ByteArray) (hn : l.length = n) (hc : n ≤ c) (hm : c ≤ maxLen) (hv : FrOk (G.put g kAny) x v) (hb : G.w0.heap.size ≤ g) (hl : ∀ (i : Nat) (s : ByteArray), l[i]? = some s → arr[i]? = some (.string s)) (hs : sorted l) (hi : ∀ s, s ∈ l → ID G s ∧ s ≠ nm x) :
    Typed0 wr { (G.put g (kIds x c l)) with rs := fun y => if y = x then l else G.rs y } := by
  have hne : g ≠ (G.lay x).rb := fun e => by
    have := h.T.rb x hx
    rw [show ((G.put g kAny).lay x).rb = g from e.symm, Gh.put_at] at this
    exact absurd (congrArg Kd.t this) (by simp)
  have T1 := h.T.rekind (b := g) (kIds x c l) (.inr (.inl (by rw [Gh.put_at]))) hb (fun o ho _ => by
    rw [h.hg] at ho; cases ho
    exact ⟨arr, rfl, ⟨h.sz, hm⟩, by show l.length ≤ c; omega, hl⟩) ⟨by simp, by simp, by simp, by simp, by simp⟩
  have e1 : (G.put g kAny).put g (kIds x c l) = G.put g (kIds x c l) := by
    unfold Gh.put; congr 1; funext i; by_cases e : i = g <;> simp [e]
  rw [e1] at T1
  have T2 := T1.to_rs x l rfl (fun _ => hs) (fun _ s hs' => hi s hs')
  refine T2.shut ?_
  rintro b o rfl - ho
  rw [h.hr] at ho
  cases ho
  rw [show ({ (G.put g (kIds x c l)) with rs := fun y => if y = x then l else (G.put g (kIds x c l)).rs y } : Gh).kd (G.lay x).rb = kRec x from T1.rb x hx]
  refine ⟨_, v, rfl, .inr ⟨g, c, by simp [hn], ?_⟩, ?_⟩
  · show (G.put g (kIds x c l)).kd g = _
    rw [Gh.put_at]; simp
  · rcases hv with hv | ⟨b, n', c', k1, k2, k3, k4⟩
    · exact .inl hv
    · refine .inr ⟨b, n', c', k1, k2, k3, ?_⟩
      have : b ≠ g := fun e => by subst e; rw [Gh.put_at] at k4; exact absurd (congrArg Kd.t k4) (by simp)
      show (G.put g (kIds x c l)).kd b = _
      rw [Gh.put_ne _ _ this, ← k4, Gh.put_ne _ _ this]
theorem Le.shut22 {G : Gh} {x g c : Nat} {l l' : List ByteArray} (h : (G.kd g).t = 12 ∨ (G.kd g).t = 0) : Le 1 G { (G.put g (kIds x c l)) with rs := fun y => if y = x then l' else G.rs y } := by
  refine ⟨rfl, rfl, rfl, Nat.le_refl _, Nat.le_succ _, fun b => ?_⟩
  by_cases e : b = g
  · subst e; rcases h with h | h
    · exact .inr (.inl (.inl h))
    · exact .inl h
  · exact .inr (.inr (.inl (G.put_ne _ e).symm))

theorem getD_some {l : List ByteArray} {i : Nat} (h : i < l.length) : l[i]? = some (l.getD i .empty) := by simp [h]
theorem sorted_sub {l l' : List ByteArray} (h : sorted l) (hs : l'.Sublist l) : sorted l' := List.Pairwise.sublist hs h

theorem tl_eq {a b : ByteArray} (h : (a.toList == b.toList) = true) : a = b := by rw [← beq_toListBytes] at h; exact (MapKept.bytes_beq _ _).1 h
theorem tl_ne {a b : ByteArray} (h : (a.toList == b.toList) = false) : a ≠ b := fun e => by rw [← beq_toListBytes, (MapKept.bytes_beq _ _).2 e] at h; cases h
theorem nm_inj {i j : Nat} (hi : i < 5) (hj : j < 5) (h : nm i = nm j) : i = j := by
  unfold nm at h
  have h1 : (97 + i).toUInt8 = (97 + j).toUInt8 := by
    have := congrArg ByteArray.data h
    simpa using this
  have h2 := congrArg UInt8.toNat h1
  simp at h2
  omega
theorem sorted_len {l : List ByteArray} : sorted l → ∀ lo, (∀ s ∈ l, ∃ i, lo ≤ i ∧ i < 5 ∧ s = nm i) → l.length ≤ 5 - lo := by
  induction l with
  | nil => intro _ lo _; simp
  | cons a l ih =>
    intro hs lo hi
    obtain ⟨i, h1, h2, h3⟩ := hi a (by simp)
    have hp := List.pairwise_cons.1 hs
    have := ih hp.2 (i + 1) (fun b hb => by
      obtain ⟨i', j', k1, k2, k3, k4⟩ := hp.1 b hb
      have : i' = i := nm_inj (by omega) h2 (k3.symm.trans h3)
      exact ⟨j', by omega, k2, k4⟩)
    simp
    omega
theorem TypedE.rs5 {E w G x} (T : TypedE E w G) (hx : x < G.k) : (G.rs x).length ≤ 5 := by
  have := sorted_len (T.srt x hx) 0 (fun s hs => by obtain ⟨⟨i, h1, h2⟩, _⟩ := T.rid x hx s hs; exact ⟨i, by omega, by have := T.k5; omega, h2⟩)
  omega
theorem sorted_inj {l : List ByteArray} (h : sorted l) {i j : Nat} {s : ByteArray} (h1 : l[i]? = some s) (h2 : l[j]? = some s) : i = j := by
  obtain ⟨l1, e1⟩ := List.getElem?_eq_some_iff.1 h1
  obtain ⟨l2, e2⟩ := List.getElem?_eq_some_iff.1 h2
  have hp := List.pairwise_iff_getElem.1 h
  rcases Nat.lt_trichotomy i j with h | h | h
  · obtain ⟨a, b, k1, k2, k3, k4⟩ := hp i j l1 l2 h
    rw [e1] at k3; rw [e2] at k4
    have := nm_inj (by omega) k2 (k3.symm.trans k4); omega
  · exact h
  · obtain ⟨a, b, k1, k2, k3, k4⟩ := hp j i l2 l1 h
    rw [e2] at k3; rw [e1] at k4
    have := nm_inj (by omega) k2 (k3.symm.trans k4); omega

set_option maxHeartbeats 4000000 in
set_option maxRecDepth 100000 in
theorem c22_f {w G x s} (T : Typed0 w G) (hx : x < G.k) (hs : s ∈ G.rs x) :
    Calls Try.prog 22 #[.pointer (some ⟨(G.lay x).rb, 0, none⟩), .string s, .bool false] w fun e w' => OnPost G x (fun t => t ∈ G.rs x ∧ t ≠ s) e w' := by
  obtain ⟨u, v, hr, hu, hv⟩ := T.recd hx id
  have hne0 : G.rs x ≠ [] := fun e => by rw [e] at hs; simp at hs
  rcases hu with ⟨-, hu⟩ | ⟨g, c, rfl, hg⟩
  · exact absurd hu hne0
  obtain ⟨o, hgo, arr, rfl, ⟨hsz, hmax⟩, hle, hcell⟩ := T.obj hg (by simp) id
  have hgw := T.new hg (by simp)
  have hne : g ≠ (G.lay x).rb := kd_ne hg (T.rb x hx) (by simp)
  have T1 : TypedE (fun b => b = (G.lay x).rb) w (G.put g kAny) := (T.weaken (fun _ h => h.elim)).rekind kAny (.inr (.inr ⟨.inl (by rw [hg]), by rw [hg]⟩)) hgw (fun _ _ _ => trivial) ⟨by simp, by simp, by simp, by simp, by simp⟩
  have O0 : Open22 G x g c (G.rs x).length v w arr := ⟨T1, hr, hgo, hsz⟩
  have hk5 := T.rs5 hx
  have hv1 : FrOk (G.put g kAny) x v := by
    rcases hv with hv | ⟨b, n', c', k1, k2, k3, k4⟩
    · exact .inl hv
    · exact .inr ⟨b, n', c', k1, k2, k3, by rw [Gh.put_ne _ _ (kd_ne k4 hg (by simp))]; exact k4⟩
  have SRT := hid (T.srt x hx)
  have RID := hid (T.rid x hx)
  have LG := hid (show (G.kd g).t = 12 by rw [hg])
  have HV := hid hv1
  have HW := hid hgw
  have HS := hid hs
  have HLE := hid hle
  have HMAX := hid hmax
  have OO := hid O0
  have cells : ∀ j, j < (G.rs x).length → arr[j]? = some (.string ((G.rs x).getD j .empty)) := fun j hj => hcell j _ (getD_some hj)
  have CE := hid cells
  have HG := hid hgo
  have r0 : w.cell? ⟨(G.lay x).rb, 0, none⟩ = some (.slice (some ⟨g, 0, none⟩) (G.rs x).length c) := (cell_of hr _).trans rfl
  clear cells hv1 hgw hs hle hmax O0 T T1 hr hv hgo hcell hg hne0
  generalize hlen : (G.rs x).length = n at *
  have HL := hid hlen
  clear hlen
  go_enter Try.func22, Try.ntmps22
  go_wp2_with fail
  go_loopg [6, 7] n (fun k a i wr => w = wr ∧ ∃ j : Nat, j + k = n ∧ i = .int .i64 j ∧ ((a = .int .i64 (-1) ∧ ∀ i, i < j → (G.rs x).getD i .empty ≠ s) ∨ ∃ m : Nat, a = .int .i64 m ∧ m < n ∧ (G.rs x).getD m .empty = s))
  case atStart => exact ⟨rfl, 0, by omega, rfl, .inl ⟨rfl, by omega⟩⟩
  case round =>
    obtain ⟨rfl, j, hj, rfl, ha⟩ := hrel
    have J := hid hj
    by_cases hlt : j < n
    · have hlt' : (j : Int) < (n : Int) := by omega
      have cj : w.cell? ⟨g, j, none⟩ = some (.string ((G.rs x).getD j .empty)) := by rw [cell_of HG.out]; exact CE.out j hlt
      have AT := hid ha
      clear ha hj
      generalize hsj : (G.rs x).getD j .empty = sj at *
      have SJ := hid hsj
      clear hsj
      go_wp2_with fail
      · have he : (sj.toList == s.toList) = true := by assumption
        go_roundg (gk - 1)
        case measure => have := J.out; omega
        case rel => exact ⟨rfl, j + 1, by have := J.out; omega, rfl, .inr ⟨j, rfl, hlt, by rw [SJ.out]; exact tl_eq he⟩⟩
      · have he : (sj.toList == s.toList) = false := by assumption
        go_roundg (gk - 1)
        case measure => have := J.out; omega
        case rel =>
          refine ⟨rfl, j + 1, by have := J.out; omega, rfl, ?_⟩
          rcases AT.out with ⟨e, h⟩ | h
          · refine .inl ⟨e, fun i hi => ?_⟩
            by_cases h' : i = j
            · subst h'; rw [SJ.out]; exact tl_ne he
            · exact h i (by omega)
          · exact .inr h
    · have hge : (n : Int) ≤ (j : Int) := by omega
      rcases ha with ⟨rfl, hno⟩ | ⟨m, rfl, hm, hsm⟩
      · exfalso
        obtain ⟨i, hi⟩ := List.mem_iff_getElem?.1 HS.out
        obtain ⟨hi1, hi2⟩ := List.getElem?_eq_some_iff.1 hi
        have := HL.out
        exact hno i (by omega) (by rw [← hi2]; simp [hi1])
      have HSM := hid hsm
      have hm' : (m : Int) < (n : Int) := by omega
      clear hsm hj hlt
      go_wp2_with fail
      go_loopg [11] (n - m) (fun k i wr => ∃ (p : Nat) (ar : Array Value), m ≤ p ∧ p < n ∧ p + k = n ∧ i = .int .i64 p ∧ Open22 G x g c n v wr ar ∧ (∀ j, j < p → ar[j]? = some (.string (((G.rs x).eraseIdx m).getD j .empty))) ∧ ∀ j, p ≤ j → j < n → ar[j]? = some (.string ((G.rs x).getD j .empty)))
      case atStart =>
        refine ⟨m, arr, Nat.le_refl _, hm, by omega, rfl, OO.out, fun j hj => ?_, fun j h1 h2 => CE.out j h2⟩
        rw [CE.out j (by omega)]
        simp [List.getElem?_eraseIdx, hj]
      case round =>
        obtain ⟨p, ar, h1, h2, h3, rfl, O, c1, c2⟩ := hrel
        have q0 : wr.cell? ⟨(G.lay x).rb, 0, none⟩ = some (.slice (some ⟨g, 0, none⟩) n c) := (cell_of O.hr _).trans rfl
        have qf := fz_of O.hr
        have gf := fz_of O.hg
        have OH := hid O
        have C1 := hid c1
        have C2 := hid c2
        have H1 := hid h1
        have H3 := hid h3
        have hnc := HLE.out
        by_cases hp : p + 1 < n
        · have hp' : ((p : Int) + 1) < (n : Int) := by omega
          have g0 : wr.cell? ⟨g, p, none⟩ = some (.string ((G.rs x).getD p .empty)) := by rw [cell_of O.hg]; exact c2 p (by omega) h2
          have g1 : wr.cell? ⟨g, p + 1, none⟩ = some (.string ((G.rs x).getD (p + 1) .empty)) := by rw [cell_of O.hg]; exact c2 (p + 1) (by omega) hp
          have e1 : ((p : Int) + 1).toNat = p + 1 := by omega
          clear O c1 c2 h1 h3 r0
          generalize hA : (G.rs x).getD p .empty = A0 at *
          generalize hB : (G.rs x).getD (p + 1) .empty = B0 at *
          have HA := hid hB
          clear hA hB
          go_wp2_with fail
          go_region
          go_wp2_with fail
          go_roundg (gk - 1)
          case measure => have := H3.out; omega
          case rel =>
            refine ⟨p + 1, _, by have := H1.out; omega, hp, by have := H3.out; omega, by rfl, (OH.out.store hne p _).drew, fun j hj => ?_, fun j k1 k2 => ?_⟩
            · by_cases e : j = p
              · subst e
                have hlt : j < ar.size := by rw [OH.out.sz]; omega
                rw [Array.getElem?_setIfInBounds_self_of_lt hlt]
                have := H1.out
                rw [← HA.out]
                simp [List.getElem?_eraseIdx, show ¬ j < m by omega]
              · rw [Array.getElem?_setIfInBounds_ne (by omega)]; exact C1.out j (by omega)
            · rw [Array.getElem?_setIfInBounds_ne (by omega)]; exact C2.out j (by omega) k2
        · have hp' : (n : Int) ≤ ((p : Int) + 1) := by omega
          have e0 : n = p + 1 := by omega
          have q1 : wr.cell? ⟨(G.lay x).rb, 0, none⟩ = some (.slice (some ⟨g, 0, none⟩) n c) := q0
          clear O c1 c2 h1 h3 r0
          have E0 := hid e0
          clear e0
          have b1 : (0 : Int) ≤ (n : Int) - 1 := by omega
          have b2 : (n : Int) - 1 ≤ (c : Int) := by omega
          have b3 : ((n : Int) - 1).toNat = n - 1 := by omega
          go_wp2_with fail
          go_region
          go_end0
          have e0 := E0.out
          have hm0 := H1.out
          have hl := HL.out
          have hml : m < (G.rs x).length := by omega
          have lm : (G.rs x)[m]? = some s := by rw [getD_some hml, HSM.out]
          have S := ((OH.out.ids hne (n - 1)).drew).shut hx ((G.rs x).eraseIdx m) (by rw [List.length_eraseIdx_of_lt hml]; omega) (by omega) HMAX.out HV.out HW.out (fun i t ht => by
            have hi : i < n - 1 := by
              have := (List.getElem?_eq_some_iff.1 ht).1
              rw [List.length_eraseIdx_of_lt hml] at this; omega
            have e1 : ((G.rs x).eraseIdx m).getD i .empty = t := by simp [ht]
            by_cases hip : i < p
            · rw [C1.out i hip, e1]
            · omega) (sorted_sub SRT.out (List.eraseIdx_sublist _ _)) (fun t ht => RID.out t ((List.eraseIdx_sublist _ _).subset ht))
          refine ⟨rfl, _, _, Le.shut22 (.inl LG.out), S, rfl, rfl, fun t => ?_⟩
          rw [List.mem_eraseIdx_iff_getElem?]
          constructor
          · rintro ⟨i, hi, hit⟩
            refine ⟨List.mem_iff_getElem?.2 ⟨i, hit⟩, fun e => hi ?_⟩
            subst e
            exact sorted_inj SRT.out hit lm
          · rintro ⟨ht, hts⟩
            obtain ⟨i, hi⟩ := List.mem_iff_getElem?.1 ht
            refine ⟨i, fun e => hts ?_, hi⟩
            subst e
            rw [lm] at hi; exact (Option.some.inj hi).symm
end Go.Proofs.Qxb6002353a
