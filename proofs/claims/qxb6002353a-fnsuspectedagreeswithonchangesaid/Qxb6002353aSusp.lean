/-
  SEAT b6002353a: Suspected.
-/
import Derived.Test.Qxb6002353aSort
import Derived.Test.Qxb6002353aClose
namespace Go.Proofs.Qxb6002353a
open Go.RowKit
open Go.ChangeMaps (setBlock)
set_option linter.unusedVariables false
set_option linter.unusedSimpArgs false

theorem sorted_ext : ∀ {l1 l2 : List ByteArray}, sorted l1 → sorted l2 → (∀ s, s ∈ l1 ↔ s ∈ l2) → l1 = l2 := by
  intro l1
  induction l1 with
  | nil =>
    intro l2 _ _ h
    cases l2 with
    | nil => rfl
    | cons b l2 => exact absurd ((h b).2 (by simp)) (by simp)
  | cons a l1 ih =>
    intro l2 h1 h2 h
    cases l2 with
    | nil => exact absurd ((h a).1 (by simp)) (by simp)
    | cons b l2 =>
      have p1 := List.pairwise_cons.1 h1
      have p2 := List.pairwise_cons.1 h2
      have irr : ∀ {u v : ByteArray}, (∃ i j, i < j ∧ j < 5 ∧ u = nm i ∧ v = nm j) → u ≠ v := by
        rintro u v ⟨i, j, k1, k2, rfl, rfl⟩ e
        have := nm_inj (by omega) k2 e
        omega
      have hab : a = b := by
        rcases List.mem_cons.1 ((h a).1 (by simp)) with e | e
        · exact e
        · rcases List.mem_cons.1 ((h b).2 (by simp)) with e' | e'
          · exact e'.symm
          · obtain ⟨i, j, k1, k2, k3, k4⟩ := p2.1 a e
            obtain ⟨i', j', k1', k2', k3', k4'⟩ := p1.1 b e'
            have e1 := nm_inj (by omega) k2' (k3.symm.trans k4')
            have e2 := nm_inj k2 (by omega) (k4.symm.trans k3')
            omega
      subst hab
      congr 1
      refine ih p1.2 p2.2 fun s => ⟨fun hs => ?_, fun hs => ?_⟩
      · rcases List.mem_cons.1 ((h s).1 (by simp [hs])) with e | e
        · exact absurd e.symm (irr (p1.1 s hs))
        · exact e
      · rcases List.mem_cons.1 ((h s).2 (by simp [hs])) with e | e
        · exact absurd e.symm (irr (p2.1 s hs))
        · exact e
theorem nodup_len5 {il : List Nat} (hn : il.Nodup) (h : ∀ a ∈ il, a < 5) : il.length ≤ 5 := by
  have h1 := nodup_len 5 (il.map nm) (by
    rw [List.Nodup, List.pairwise_map]
    refine List.Pairwise.imp_of_mem ?_ hn
    intro a b ha hb hab e
    exact hab (nm_inj (h a ha) (h b hb) e)) (fun s hs => by
    obtain ⟨a, ha, rfl⟩ := List.mem_map.1 hs
    exact ⟨a, h a ha, rfl⟩)
  simpa using h1
theorem idx_of {ss : List ByteArray} (h : ∀ s ∈ ss, ∃ i, i < 5 ∧ s = nm i) : ∃ il : List Nat, ss = il.map nm ∧ ∀ a ∈ il, a < 5 := by
  induction ss with
  | nil => exact ⟨[], rfl, by simp⟩
  | cons s ss ih =>
    obtain ⟨il, h1, h2⟩ := ih (fun t ht => h t (by simp [ht]))
    obtain ⟨i, h3, h4⟩ := h s (by simp)
    exact ⟨i :: il, by rw [h4, h1]; rfl, fun a ha => by rcases List.mem_cons.1 ha with rfl | ha; exact h3; exact h2 a ha⟩
theorem sorted_map {il : List Nat} (h : il.Pairwise (· < ·)) (h5 : ∀ a ∈ il, a < 5) : sorted (il.map nm) := by
  unfold sorted
  rw [List.pairwise_map]
  refine List.Pairwise.imp_of_mem ?_ h
  intro a b ha hb hab
  exact ⟨a, b, hab, h5 b hb, rfl, rfl⟩

/-- a sort of a row of which nothing is told -/
theorem Typed.sortW {g w w' G} {arr : Array Value} (T : Typed w G) (hg : (G.kd g).t = 15) (h : SortW g w w' arr) : Typed w' G := by
  refine ⟨T.T.heap h.os h.tape h.output h.size fun b o ho _ => ?_, T.A⟩
  by_cases e : b = g
  · subst e; unfold KOk; rw [hg]; trivial
  · rw [h.other b e] at ho; exact T.T.ok b o ho id

/-- sort a row of names that is owned -/
theorem sort_owned {w G v} {ss : List ByteArray} (T : Typed w G) (hv : ∀ b, v.ownBlock = some b → (G.kd b).t = 15) (hown : w.ownsRow G.w0.heap.size 9 1 v ss.length (ss.map .string)) (hi : ∀ s ∈ ss, ∃ i, i < 5 ∧ s = nm i) (hn : ss.Nodup) :
    Calls Try.prog 27 #[v] w fun e w' => e = .returned (.tuple #[]) ∧ (Typed w' G ∧ (∀ b, v.ownBlock ≠ some b → w'.heap[b]? = w.heap[b]?) ∧ ∃ l, sorted l ∧ (∀ s, s ∈ l ↔ s ∈ ss) ∧ l.length = ss.length ∧ w'.ownsRow G.w0.heap.size 9 1 v l.length (l.map .string)) := by
  obtain ⟨il, e1, h5⟩ := idx_of hi
  have hnd : il.Nodup := by
    rw [e1, List.Nodup, List.pairwise_map] at hn
    exact hn.imp fun h e => h (by rw [e])
  have hlen : ss.length = il.length := by rw [e1]; simp
  have hl5 : il.length ≤ 5 := nodup_len5 hnd h5
  obtain ⟨q1, q2, q3⟩ := isort_ok il hl5 h5 hnd
  have h5' : ∀ a ∈ isort il, a < 5 := fun a ha => h5 a ((q3 a).1 ha)
  have hmem : ∀ s, s ∈ (isort il).map nm ↔ s ∈ ss := fun s => by
    rw [e1]; simp only [List.mem_map, q3]
  rcases hown.2 with ⟨rfl, h0⟩ | ⟨g, cap, cur, rfl, k1, k2, k3, k4, k5, k6⟩
  · refine (c27 (n := 0) (by omega) (fun W hW => (c58_0 none 0 W).mono fun e w' ⟨h1, h2⟩ => ⟨h1, (?_ : Typed w' G ∧ (∀ b, (Value.slice none 0 0).ownBlock ≠ some b → w'.heap[b]? = w.heap[b]?) ∧ ∃ l, sorted l ∧ (∀ s, s ∈ l ↔ s ∈ ss) ∧ l.length = ss.length ∧ w'.ownsRow G.w0.heap.size 9 1 (.slice none 0 0) l.length (l.map .string))⟩)).mono fun e w' h => h
    subst hW; subst h2
    have : ss = [] := List.eq_nil_of_length_eq_zero h0
    subst this
    exact ⟨T, fun _ _ => rfl, [], List.Pairwise.nil, fun s => Iff.rfl, rfl, hown⟩
  · rw [hlen]
    have hnames : Names cur il := fun i hi' => by
      have : (cur.toList.take (ss.length * 1))[i]? = some (Value.string (nm (il.getD i 0))) := by
        rw [k6, e1]; simp [hi']
      rw [List.getElem?_take_of_lt (by omega)] at this
      simpa using this
    refine (c27 (n := il.length) hl5 (fun W hW => (c58 g cap il cur W hl5 h5 (by rw [← hW]; exact k2) (by omega) hnames).mono fun e w' ⟨h1, arr', h2, h3, h4⟩ => ⟨h1, (?_ : Typed w' G ∧ (∀ b, (Value.slice (some ⟨g, 0, none⟩) il.length cap).ownBlock ≠ some b → w'.heap[b]? = w.heap[b]?) ∧ ∃ l, sorted l ∧ (∀ s, s ∈ l ↔ s ∈ ss) ∧ l.length = ss.length ∧ w'.ownsRow G.w0.heap.size 9 1 (.slice (some ⟨g, 0, none⟩) il.length cap) l.length (l.map .string))⟩)).mono fun e w' h => by rw [← hlen]; rw [← hlen] at h; exact h
    subst hW
    refine ⟨T.sortW (hv g rfl) h2, fun b hb => h2.other b (fun e => hb (by rw [e]; rfl)), (isort il).map nm, sorted_map q1 h5', hmem, by simp [q2, hlen], ?_⟩
    refine ⟨by simp, .inr ⟨g, cap, arr', by simp [q2], k1, h2.at_, by simp [q2]; omega, k4, by omega, ?_⟩⟩
    apply List.ext_getElem?
    intro i
    by_cases hi' : i < (isort il).length
    · rw [List.getElem?_take_of_lt (by simpa using hi')]
      have := h4 i hi'
      simp only [Array.getElem?_toList]
      rw [this]
      simp [hi']
    · rw [List.getElem?_eq_none (by simp; omega), List.getElem?_eq_none (by simp; omega)]

/-- the loop over the pairs -/
structure SuAt (G : Gh) (x : Nat) (es : Array MapEntry) (c r : Nat) (v : Value) (seen : Array Nat) (ss : List ByteArray) (G1 : Gh) (wr : World) : Prop where
  L : Le 0 G G1
  T : Typed wr G1
  qs : G1.qs = G.qs
  rs : G1.rs = G.rs
  vk : ∀ b, v.ownBlock = some b → (G1.kd b).t = 15
  rk : G1.kd r = kAny
  it : wr.heap[r]? = some (.mapIter (some (G.lay x).qm) c seen c)
  mp : wr.heap[(G.lay x).qm]? = some (.map es c)
  own : wr.ownsRow G.w0.heap.size 9 1 v ss.length (ss.map .string)
  mem : ∀ s, s ∈ ss ↔ ∃ e ∈ es.toList, seen.contains e.born = true ∧ e.key = Value.string s ∧ G.qs x s
  nd : ss.Nodup

/-- an entry has come out -/
theorem SuAt.next {G x es c r v seen ss G1 wr} (S : SuAt G x es c r v seen ss G1 wr) (hx : x < G.k) {w1 : World} (hw : w1 = wr ∨ w1 = wr.drew) (seen' : Array Nat) :
    Typed (setBlock w1 r (.mapIter (some (G.lay x).qm) c seen' c)) G1 ∧ (setBlock w1 r (.mapIter (some (G.lay x).qm) c seen' c)).heap[r]? = some (.mapIter (some (G.lay x).qm) c seen' c) ∧ (setBlock w1 r (.mapIter (some (G.lay x).qm) c seen' c)).heap[(G.lay x).qm]? = some (.map es c) ∧ (setBlock w1 r (.mapIter (some (G.lay x).qm) c seen' c)).ownsRow G.w0.heap.size 9 1 v ss.length (ss.map .string) ∧ r < (setBlock w1 r (.mapIter (some (G.lay x).qm) c seen' c)).heap.size := by
  have hrl : r < wr.heap.size := (Array.getElem?_eq_some_iff.1 S.it).1
  have hq : (G.lay x).qm ≠ r := fun e => by have := S.it; rw [← e, S.mp] at this; cases this
  have T1 : Typed w1 G1 := by
    rcases hw with rfl | rfl
    · exact S.T
    · exact ⟨S.T.T.drew, S.T.A⟩
  have hh : w1.heap = wr.heap := by rcases hw with rfl | rfl <;> rfl
  have other : ∀ b, b ≠ r → (setBlock w1 r (.mapIter (some (G.lay x).qm) c seen' c)).heap[b]? = wr.heap[b]? := fun b hb => by
    show (w1.heap.setIfInBounds r _)[b]? = _
    rw [Array.getElem?_setIfInBounds_ne (fun e => hb e.symm), hh]
  refine ⟨⟨T1.T.block fun _ => by rw [S.rk]; trivial, T1.A⟩, ?_, ?_, ?_, ?_⟩
  · show (w1.heap.setIfInBounds r _)[r]? = _
    rw [hh]; simp [hrl]
  · rw [other _ hq]; exact S.mp
  · refine own_of_block S.own fun b hb => other b fun e => ?_
    subst e
    rcases S.own.2 with ⟨rfl, _⟩ | ⟨g, cap, cur, rfl, _, k2, _⟩
    · cases hb
    · cases hb; have := S.it; rw [k2] at this; cases this
  · show r < (w1.heap.setIfInBounds r _).size
    simp [hh, hrl]

/-- what Suspected hands back -/
def SuPost (G : Gh) (x : Nat) (e : Ending) (w' : World) : Prop := ∃ v G1, e = .returned v ∧ Le 0 G G1 ∧ Typed w' G1 ∧ G1.rs = G.rs ∧ w'.ownsRow G.w0.heap.size 9 1 v (G.rs x).length ((G.rs x).map .string)

set_option maxHeartbeats 4000000 in
set_option maxRecDepth 100000 in
theorem c12 {w G x} (T : Typed w G) (hx : x < G.k) : Calls Try.prog 12 #[.pointer (some ⟨(G.lay x).nb, 0, none⟩)] w fun e w' => SuPost G x e w' := by
  obtain ⟨v, vo, n⟩ := T.T.node hx id
  obtain ⟨o, hq, es, c, rfl, hst, hes, hall⟩ := T.T.obj (T.T.qm x hx) (by simp) id
  have nc8 := n.c8
  have rng := run_range_map (P := Try.prog) w 61 9 66 (G.lay x).qm es c Try.underlying61 hq
  have hqlt : (G.lay x).qm < w.heap.size := T.T.lt (T.T.qm x hx) (by simp)
  have S0 : SuAt G x es c w.heap.size (.slice none 0 0) #[] [] (G.put w.heap.size kAny) (w.alloc (.mapIter (some (G.lay x).qm) c #[] c)) :=
    ⟨Le.put _ (by rw [T.T.fr _ (Nat.le_refl _)]), ⟨T.T.alloc kAny trivial ⟨by simp, by simp, by simp, by simp, by simp⟩, T.A⟩, rfl, rfl, (fun b h => by cases h), Gh.put_at _ _ _, heap_alloc_new _ _, by rw [alloc_lt _ _ hqlt]; exact hq, ⟨rfl, .inl ⟨rfl, rfl⟩⟩, (fun s => ⟨fun h => by simp at h, fun ⟨e, _, h, _⟩ => by simp at h⟩), List.nodup_nil⟩
  have SS := hid S0
  have HST := hid hst
  have HES := hid hes
  have HALL := hid hall
  have A0 := hid T
  obtain ⟨ii, k1, k2, k3, k4⟩ := info_parts info9
  clear n vo T S0 hst hes hall hq
  generalize hr : w.heap.size = r at *
  have HR := hid hr
  go_enter Try.func12, Try.ntmps12
  go_wp2_with fail
  clear hr
  go_loopg [3] ((leftOf es #[]).size) (fun k v wr => ∃ seen ss G1, k = (leftOf es seen).size ∧ SuAt G x es c r v seen ss G1 wr)
  case atStart => exact ⟨#[], [], _, rfl, SS.out⟩
  case round =>
    obtain ⟨seen, ss, G1, hk, S⟩ := hrel
    rcases run_next_at (P := Try.prog) wr 0 r (G.lay x).qm c c seen es c S.it S.mp HST.out.1 (Nat.le_refl _) with ⟨hz, hrun⟩ | ⟨e, he, w1, hw1, hrun⟩
    · -- nothing is left
      have hss : ∀ s ∈ ss, ∃ i, i < 5 ∧ s = nm i := fun s hs => by
        obtain ⟨e, _, _, _, h⟩ := (S.mem s).1 hs
        obtain ⟨⟨i, h1, h2⟩, _⟩ := A0.out.T.qid x hx s h
        have := A0.out.T.k5
        exact ⟨i, by omega, h2⟩
      have own' : wr.ownsRow G1.w0.heap.size 9 1 u3 ss.length (ss.map .string) := by rw [S.L.w0]; exact S.own
      have C := hid (sort_owned S.T S.vk own' hss S.nd)
      have SH := hid S
      have HZ := hid hz
      clear S hz hss own' rng nc8
      go_wp2_with fail
      refine C.out.mono ?_
      rintro e w' ⟨rfl, h⟩
      have H := hid h
      clear h
      go_wp2_with fail
      go_ret
      obtain ⟨T', _, l, h1, h2, h3, h4⟩ := H.out
      have S := SH.out
      have hx1 : x < G1.k := by rw [S.L.k]; exact hx
      have e : l = G.rs x := by
        refine sorted_ext h1 (A0.out.T.srt x hx) fun s => ?_
        rw [h2 s, S.mem s, ← A0.out.A x hx s]
        constructor
        · rintro ⟨e, _, _, _, h⟩; exact h
        · intro h
          obtain ⟨e, he, hk⟩ := HALL.out s h
          exact ⟨e, he, all_seen es seen HZ.out e he, hk, h⟩
      refine ⟨_, G1, rfl, S.L, T', S.rs, ?_⟩
      rw [← S.L.w0]
      rw [e] at h4
      exact h4
    · -- an entry has come
      obtain ⟨hem, hns⟩ := mem_left he
      obtain ⟨s, tg, su, e1, e2, e3, e4⟩ := HES.out e hem
      obtain ⟨N1, N2, N3, N4, N5⟩ := S.next hx hw1 (seen.push e.born)
      have hshr := left_shrinks es seen e he
      obtain ⟨W2, hW2⟩ : ∃ W, W = setBlock w1 r (.mapIter (some (G.lay x).qm) c (seen.push e.born) c) := ⟨_, rfl⟩
      rw [← hW2] at hrun N1 N2 N3 N4 N5
      have hent := run_entry_at (P := Try.prog) W2 r (G.lay x).qm c seen es c e N2 N3 hem HST.out.2.1
      rw [e1, e2] at hrun hent
      have hmem : ∀ t, seen.contains t = true ∨ t = e.born ↔ (seen.push e.born).contains t = true := fun t => by
        simp [Array.contains_iff_mem, Array.mem_push]
      have uniq : ∀ e' ∈ es.toList, e'.born = e.born → e' = e := fun e' he' hb => by
        have h1 := find_born e es.toList HST.out.2.1 hem
        have h2 := find_born e' es.toList HST.out.2.1 he'
        rw [hb] at h2
        rw [h1] at h2
        exact (Option.some.inj h2).symm
      have hsx : s ∉ ss := fun h => by
        obtain ⟨e', h1, h2, h3, h4⟩ := (S.mem s).1 h
        have : e' = e := by
          have hk1 := HST.out.2.2
          obtain ⟨i, hi⟩ := List.mem_iff_getElem?.1 h1
          obtain ⟨j, hj⟩ := List.mem_iff_getElem?.1 hem
          have q1 : (es.toList.map (·.key))[i]? = some (Value.string s) := by simp only [List.getElem?_map, hi, Option.map_some, h3]
          have q2 : (es.toList.map (·.key))[j]? = some (Value.string s) := by simp only [List.getElem?_map, hj, Option.map_some, e1]
          have hij := (List.getElem?_inj (by have := (List.getElem?_eq_some_iff.1 hi).1; simpa using this) hk1).1 (q1.trans q2.symm)
          subst hij
          rw [hi] at hj; exact Option.some.inj hj
        subst this
        rw [h2] at hns; cases hns
      have memF : su = false → ∀ t, t ∈ ss ↔ ∃ e' ∈ es.toList, (seen.push e.born).contains e'.born = true ∧ e'.key = Value.string t ∧ G.qs x t := fun hf t => by
        rw [S.mem t]
        constructor
        · rintro ⟨e', h1, h2, h3⟩; exact ⟨e', h1, (hmem _).1 (.inl h2), h3⟩
        · rintro ⟨e', h1, h2, h3, h4⟩
          rcases (hmem _).2 h2 with h | h
          · exact ⟨e', h1, h, h3, h4⟩
          · have := uniq e' h1 h
            subst this
            rw [e1] at h3; cases h3
            have := e4.2 h4
            rw [hf] at this; cases this
      have memT : su = true → ∀ t, t ∈ ss ++ [s] ↔ ∃ e' ∈ es.toList, (seen.push e.born).contains e'.born = true ∧ e'.key = Value.string t ∧ G.qs x t := fun hf t => by
        rw [List.mem_append, List.mem_singleton, S.mem t]
        constructor
        · rintro (⟨e', h1, h2, h3⟩ | rfl)
          · exact ⟨e', h1, (hmem _).1 (.inl h2), h3⟩
          · exact ⟨e, hem, (hmem _).1 (.inr rfl), e1, e4.1 hf⟩
        · rintro ⟨e', h1, h2, h3, h4⟩
          rcases (hmem _).2 h2 with h | h
          · exact .inl ⟨e', h1, h, h3, h4⟩
          · have := uniq e' h1 h
            subst this
            rw [e1] at h3; cases h3; exact .inr rfl
      have SH := hid S
      have M1 := hid memF
      have M2 := hid memT
      have HSX := hid hsx
      have HSHR := hid (And.intro hk hshr)
      have NN := hid (And.intro N1 (And.intro N2 (And.intro N3 (And.intro N4 N5))))
      clear S memF memT hsx hmem uniq hshr hk N1 N2 N3 N4 hW2 hw1 he hem hns e3 e4 rng nc8
      cases su with
      | false =>
        go_wp2_with fail
        go_roundg ((leftOf es (seen.push e.born)).size)
        case measure => obtain ⟨h1, h2⟩ := HSHR.out; omega
        case rel =>
          have S := SH.out
          obtain ⟨N1, N2, N3, N4, N5⟩ := NN.out
          have hf := N1.T.fr _ (Nat.le_refl _)
          refine ⟨_, ss, G1.put W2.heap.size kAny, rfl, ⟨(S.L.trans (Le.put _ (by rw [hf]))).mono (by omega), ⟨N1.T.alloc kAny trivial ⟨by simp, by simp, by simp, by simp, by simp⟩, N1.A⟩, S.qs, S.rs, fun b hb => ?_, ?_, ?_, ?_, ?_, M1.out (by first | rfl | trivial), S.nd⟩⟩
          · rw [Gh.put_ne _ _ (Nat.ne_of_lt (own_lt N4 hb))]; exact S.vk b hb
          · rw [Gh.put_ne _ _ (Nat.ne_of_lt N5)]; exact S.rk
          · rw [alloc_lt _ _ N5]; exact N2
          · rw [alloc_lt _ _ (Array.getElem?_eq_some_iff.1 N3).1]; exact N3
          · exact own_of_block N4 fun b hb => alloc_lt _ _ (own_lt N4 hb)
      | true =>
        have hss5 : ss.length ≤ 5 := by
          have S := SH.out
          refine nodup_len 5 ss S.nd fun t ht => ?_
          obtain ⟨e', _, _, _, h⟩ := (S.mem t).1 ht
          obtain ⟨⟨i, h1, h2⟩, _⟩ := A0.out.T.qid x hx t h
          have := A0.out.T.k5
          exact ⟨i, by omega, h2⟩
        have hbz : G.w0.heap.size ≤ W2.heap.size := by
          have := NN.out.1.T.size
          rw [SH.out.L.w0] at this; exact this
        have HF1 := hid (own_of_block (w' := (W2.alloc (.cells #[.int .u64 tg, .bool true] 66)).alloc (.cells #[.string s] 9)) NN.out.2.2.2.1 (fun b hb => by
          have hl := own_lt NN.out.2.2.2.1 hb
          rw [alloc_lt _ _ (by rw [alloc_size]; omega), alloc_lt _ _ hl]))
        have HN := hid (cell_one_new (W2.alloc (.cells #[.int .u64 tg, .bool true] 66)) (.string s) 9)
        have B1 := hid (show ss.length + 1 ≤ maxLen by unfold maxLen; omega)
        have B2 := hid (show (ss.length + 1) * 16 ≤ 140737488355328 by omega)
        have B3 := hid (show G.w0.heap.size ≤ ((W2.alloc (.cells #[.int .u64 tg, .bool true] 66)).alloc (.cells #[.string s] 9)).heap.size by rw [alloc_size, alloc_size]; omega)
        have hsz : (W2.alloc (.cells #[.int .u64 tg, .bool true] 66)).heap.size = W2.heap.size + 1 := alloc_size _ _
        rw [hsz] at HN
        have HSZ := hid hsz
        clear hss5 hbz N5
        go_wp2_with (at_builtin; refine wpList_append_own_at _ rfl (.tmp 18) (.tmp 20) 33 rfl G.w0.heap.size 9 ii (.string ⟨#[]⟩) 1 16 Try.underlying33 k1 k2 k3 k4 rfl (by omega) u3 ss.length (ss.map .string) rfl HF1.out ⟨W2.heap.size + 1, 0, none⟩ 1 1 [.string s] rfl rfl HN.out (by simp [Value.oneCell']) B1.out B2.out B3.out ?_; intro v' w5 hown5 hg5 hnil5 hloc5; have H5 := hid (And.intro hown5 (And.intro hg5 hloc5)); clear hown5 hg5 hnil5 hloc5)
        go_roundg ((leftOf es (seen.push e.born)).size)
        case measure => obtain ⟨h1, h2⟩ := HSHR.out; omega
        case rel =>
          have S := SH.out
          obtain ⟨N1, N2, N3, N4, N5⟩ := NN.out
          obtain ⟨hown5, hg5, hloc5⟩ := H5.out
          have hf := N1.T.fr _ (Nat.le_refl _)
          have T3 := N1.T.alloc (o := .cells #[.int .u64 tg, .bool true] 66) kAny trivial ⟨by simp, by simp, by simp, by simp, by simp⟩
          have hf3 := T3.fr _ (Nat.le_refl _)
          have T4 := T3.alloc (o := .cells #[.string s] 9) kAny trivial ⟨by simp, by simp, by simp, by simp, by simp⟩
          have hs4 : ((W2.alloc (.cells #[.int .u64 tg, .bool true] 66)).alloc (.cells #[.string s] 9)).heap.size = W2.heap.size + 2 := by rw [alloc_size, alloc_size]
          have hs3 := HSZ.out
          rw [hs3] at T4 hf3
          have same : ∀ b, b < W2.heap.size → ((G1.put W2.heap.size kAny).put (W2.heap.size + 1) kAny).kd b = G1.kd b := fun b hb => by
            rw [Gh.put_ne _ _ (by omega), Gh.put_ne _ _ (by omega)]
          have T5 := T4.grown hg5 (fun b hb => .inr (by rw [same b (own_lt N4 hb)]; exact S.vk b hb))
          have hne : ∀ b, b < W2.heap.size → u3.ownBlock ≠ some b → w5.heap[b]? = W2.heap[b]? := fun b hb hbn => by
            rw [hg5.block b (by omega) (fun e => hbn e.symm), alloc_lt _ _ (by omega), alloc_lt _ _ hb]
          have nwalk : ∀ {b : Nat} {o : Obj}, W2.heap[b]? = some o → (∀ cur, o ≠ .cells cur 9 (0, 0)) → u3.ownBlock ≠ some b := fun {b o} hb ho e => by
            rcases N4.2 with ⟨rfl, _⟩ | ⟨g, cap, cur, rfl, _, k2, _⟩
            · cases e
            · cases e; rw [k2] at hb; exact ho cur (Option.some.inj hb).symm
          have L5 : Le 0 G1 (((G1.put W2.heap.size kAny).put (W2.heap.size + 1) kAny).grow ((W2.alloc (.cells #[.int .u64 tg, .bool true] 66)).alloc (.cells #[.string s] 9)).heap.size w5.heap.size) :=
            ((Le.put _ (by rw [hf])).trans ((Le.put _ (by rw [hf3])).trans (Le.grow T4 _))).mono (by omega)
          refine ⟨_, ss ++ [s], _, rfl, ⟨(S.L.trans L5).mono (by omega), ⟨T5, N1.A⟩, S.qs, S.rs, fun b hb => ?_, ?_, ?_, ?_, ?_, M2.out (by first | rfl | trivial), ?_⟩⟩
          · rcases hloc5 with h | h
            · rw [hb] at h
              have hl := own_lt N4 h.symm
              rw [Gh.grow_lt _ (by omega), same b hl]; exact S.vk b h.symm
            · rw [hb] at h; cases h
              rw [Gh.grow_in _ (Nat.le_refl _) (own_lt hown5 hb)]
          · rw [Gh.grow_lt _ (by omega), same r N5]; exact S.rk
          · rw [hne r N5 (nwalk N2 (fun cur e => by cases e))]; exact N2
          · have hl := (Array.getElem?_eq_some_iff.1 N3).1
            rw [hne _ hl (nwalk N3 (fun cur e => by cases e))]; exact N3
          · simpa using hown5
          · exact List.nodup_append.2 ⟨S.nd, by simp, fun a ha b hb => by simp at hb; subst hb; intro e; subst e; exact HSX.out ha⟩
end Go.Proofs.Qxb6002353a
