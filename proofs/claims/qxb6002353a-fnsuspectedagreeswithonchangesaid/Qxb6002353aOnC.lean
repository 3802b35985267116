/-
  SEAT b6002353a: the recorder takes a name in: the walk.
-/
import Derived.Test.Qxb6002353aOnB
import Derived.Deep.CutBlock
namespace Go.Proofs.Qxb6002353a
open Go.RowKit
set_option linter.unusedVariables false
set_option linter.unusedSimpArgs false

/-- the names' order -/
theorem less_nm {i j : Nat} (hi : i < 5) (hj : j < 5) : Op.bytesLess (nm i).toList (nm j).toList = decide (i < j) := by
  have h : ∀ a : Fin 5, ∀ b : Fin 5, Op.bytesLess (nm a.val).toList (nm b.val).toList = decide (a.val < b.val) := by decide +kernel
  exact h ⟨i, hi⟩ ⟨j, hj⟩

theorem own_shape {w : World} {base : Nat} {e : TypeId} {size : Nat} {v : Value} {n : Nat} {xs : List Value} (h : w.ownsRow base e size v (n + 1) xs) : ∃ g c, v = .slice (some ⟨g, 0, none⟩) (n + 1) c := by
  rcases h.2 with ⟨_, h⟩ | ⟨g, cap, cur, rfl, _⟩
  · omega
  · exact ⟨g, cap, rfl⟩
/-- where a name goes in -/
def insAt (l : List ByteArray) (p : Nat) (s : ByteArray) : List ByteArray := l.take p ++ s :: l.drop p

theorem sorted_ins {l : List ByteArray} {p : Nat} {s : ByteArray} {i0 : Nat} (hs : sorted l) (h0 : i0 < 5) (e : s = nm i0) (hl : ∀ t ∈ l, ∃ i, i < 5 ∧ t = nm i) (hn : s ∉ l) (hp : p ≤ l.length) (lo : ∀ i, i < p → Op.bytesLess s.toList (l.getD i .empty).toList = false) (hi : p < l.length → Op.bytesLess s.toList (l.getD p .empty).toList = true) : sorted (insAt l p s) := by
  have before : ∀ a ∈ l.take p, ∃ i j, i < j ∧ j < 5 ∧ a = nm i ∧ s = nm j := by
    intro a ha
    obtain ⟨i, hi'⟩ := List.mem_iff_getElem?.1 ha
    have hip : i < p := by
      rcases Nat.lt_or_ge i p with h | h
      · exact h
      · rw [List.getElem?_eq_none (by simp; omega)] at hi'; cases hi'
    rw [List.getElem?_take_of_lt hip] at hi'
    have hm := List.mem_iff_getElem?.2 ⟨i, hi'⟩
    obtain ⟨a', h1, rfl⟩ := hl a hm
    have := lo i hip
    rw [show l.getD i .empty = nm a' by simp [hi'], e, less_nm h0 h1] at this
    have h2 : a' ≠ i0 := fun h => hn (by rw [e, ← h]; exact hm)
    simp at this
    exact ⟨a', i0, by omega, h0, rfl, e⟩
  have after : ∀ b ∈ l.drop p, ∃ i j, i < j ∧ j < 5 ∧ s = nm i ∧ b = nm j := by
    intro b hb
    obtain ⟨i, hi'⟩ := List.mem_iff_getElem?.1 hb
    rw [List.getElem?_drop] at hi'
    have hlt := (List.getElem?_eq_some_iff.1 hi').1
    have hpl : p < l.length := by omega
    have hpp : l[p]? = some (l.getD p .empty) := getD_some hpl
    obtain ⟨a', h1, h2⟩ := hl _ (List.mem_iff_getElem?.2 ⟨p, hpp⟩)
    have := hi hpl
    rw [h2, e, less_nm h0 h1] at this
    simp at this
    obtain ⟨b', h3, rfl⟩ := hl b (List.mem_iff_getElem?.2 ⟨_, hi'⟩)
    by_cases h4 : i = 0
    · subst h4
      rw [Nat.add_zero, hpp] at hi'
      rw [h2] at hi'
      have := nm_inj h1 h3 (Option.some.inj hi')
      exact ⟨i0, b', by omega, h3, e, rfl⟩
    · obtain ⟨u, v, k1, k2, k3, k4⟩ := List.pairwise_iff_getElem.1 hs p (p + i) hpl hlt (by omega)
      have e1 : l[p] = nm a' := by rw [← h2]; simp [hpl]
      have e2 : l[p + i] = nm b' := by have := List.getElem?_eq_getElem hlt; rw [this] at hi'; exact Option.some.inj hi'
      have u1 := nm_inj h1 (by omega) (e1.symm.trans k3)
      have u2 := nm_inj h3 k2 (e2.symm.trans k4)
      exact ⟨i0, b', by omega, h3, e, rfl⟩
  unfold insAt
  refine List.pairwise_append.2 ⟨List.Pairwise.sublist (List.take_sublist _ _) hs, List.pairwise_cons.2 ⟨after, List.Pairwise.sublist (List.drop_sublist _ _) hs⟩, ?_⟩
  intro a ha b hb
  rcases List.mem_cons.1 hb with rfl | hb
  · exact before a ha
  · obtain ⟨i, j, h1, h2, h3, h4⟩ := before a ha
    obtain ⟨i', j', k1, k2, k3, k4⟩ := after b hb
    have := nm_inj h2 (by omega) (h4.symm.trans k3)
    exact ⟨i, j', by omega, k2, h3, k4⟩
theorem mem_ins {l : List ByteArray} {p : Nat} {s t : ByteArray} : t ∈ insAt l p s ↔ t ∈ l ∨ t = s := by
  unfold insAt
  have h : t ∈ l ↔ t ∈ l.take p ∨ t ∈ l.drop p := by rw [← List.mem_append, List.take_append_drop]
  rw [List.mem_append, List.mem_cons, h]
  constructor
  · rintro (h | h | h)
    · exact .inl (.inl h)
    · exact .inr h
    · exact .inl (.inr h)
  · rintro ((h | h) | h)
    · exact .inl h
    · exact .inr (.inr h)
    · exact .inr (.inl h)

set_option maxHeartbeats 4000000 in
set_option maxRecDepth 100000 in
theorem c22_t {w G x s} (T : Typed0 w G) (hx : x < G.k) (hsi : ID G s) (hsx : s ≠ nm x) (hs : s ∉ G.rs x) (ht : G.t + 1 ≤ 100000) :
    Calls Try.prog 22 #[.pointer (some ⟨(G.lay x).rb, 0, none⟩), .string s, .bool true] w fun e w' => OnPost G x (fun t => t ∈ G.rs x ∨ t = s) e w' := by
  obtain ⟨G1, ad, c, v, O, FR⟩ := Op22.start T hx ht
  have hk5 := T.rs5 hx
  have hb0 := T.size
  have SRT := hid (T.srt x hx)
  have RID := hid (T.rid x hx)
  have K5 := hid T.k5
  have HT := hid ht
  have HSI := hid hsi
  have HSX := hid hsx
  have HS := hid hs
  have OO := hid O
  have r0 : w.cell? ⟨(G.lay x).rb, 0, none⟩ = some (.slice ad (G.rs x).length c) := (cell_of O.hr _).trans rfl
  have r2 : w.cell? ⟨(G.lay x).rb, 2, none⟩ = some v := (cell_of O.hr _).trans rfl
  have rz := fz_of O.hr
  obtain ⟨nf, zs, hf, hnf, hvb⟩ := FR.own (x := x) O.T (fun b h1 h2 => by
    have h2 : b = (G.lay x).rb := h2
    have := O.T.rb x (by rw [O.hk]; exact hx)
    rw [O.hl, ← h2] at this; rw [this] at h1; simp at h1)
  rw [O.hw] at hf
  obtain ⟨ii, k1, k2, k3, k4⟩ := info_parts info9
  have HF := hid hf
  have HNF := hid hnf
  have HVB := hid hvb
  clear hsi hsx hs O T ht hf hnf hvb FR
  generalize hlen : (G.rs x).length = n at *
  have HL := hid hlen
  clear hlen
  have hrl : (G.lay x).rb < w.heap.size := by have := OO.out.T.rb x (by rw [OO.out.hk]; exact hx); rw [OO.out.hl] at this; exact OO.out.T.lt this (by simp)
  have RL := hid hrl
  clear hrl
  go_enter Try.func22, Try.ntmps22
  go_wp2_with fail
  go_loopg [6, 7] n (fun k a i wr => w = wr ∧ ∃ j : Nat, j + k = n ∧ i = .int .i64 j ∧ a = .int .i64 (-1))
  case atStart => exact ⟨rfl, 0, by omega, rfl, rfl⟩
  case round =>
    obtain ⟨rfl, j, hj, rfl, rfl⟩ := hrel
    have J := hid hj
    by_cases hlt : j < n
    · have hlt' : (j : Int) < (n : Int) := by omega
      obtain ⟨g, rfl, cj, gz, hnc⟩ := OO.out.cell hlt
      have e : ((G.rs x).map Value.string)[j]? = some (.string ((G.rs x).getD j .empty)) := by have := HL.out; simp [show j < (G.rs x).length by omega]
      rw [e] at cj
      clear e hj
      generalize hsj : (G.rs x).getD j .empty = sj at *
      have SJ := hid hsj
      clear hsj
      go_wp2_with fail
      · have he : (sj.toList == s.toList) = true := by assumption
        exfalso
        refine HS.out ?_
        rw [← tl_eq he, ← SJ.out]
        have := HL.out
        exact List.mem_iff_getElem?.2 ⟨j, getD_some (by omega)⟩
      · go_roundg (gk - 1)
        case measure => have := J.out; omega
        case rel => exact ⟨rfl, j + 1, by have := J.out; omega, rfl, rfl⟩
    · have hge : (n : Int) ≤ (j : Int) := by omega
      clear hj
      go_upto_region 7 with fail
      go_cut [] (fun wc => ∃ G1 v, Op22 G G1 x (.slice ad n c) v n ((G.rs x).map .string) wc)
      case first =>
        have HF1 := hid (own_of_block (w' := w.alloc (.cells #[.string s] 9)) HF.out (fun b hb => alloc_lt _ _ (own_lt HF.out hb)))
        have HN := hid (cell_one_new w (.string s) 9)
        have B1 := hid (show nf + 1 ≤ maxLen by have := HNF.out; have := HT.out; unfold maxLen; omega)
        have B2 := hid (show (nf + 1) * 16 ≤ 140737488355328 by have := HNF.out; have := HT.out; omega)
        have B3 := hid (show G.w0.heap.size ≤ (w.alloc (.cells #[.string s] 9)).heap.size by rw [alloc_size]; omega)
        have C2 : Hid (∀ w2, (w.alloc (.cells #[.string s] 9)).grownBy w2 v.ownBlock → w2.cell? ⟨(G.lay x).rb, 2, none⟩ = some v ∧ ∀ i, w2.frozen? ⟨(G.lay x).rb, i, none⟩ = false) := by
          intro w2 hg2
          have h2 := OO.out.T.rb x (by rw [OO.out.hk]; exact hx)
          rw [OO.out.hl] at h2
          have e : w2.heap[(G.lay x).rb]? = w.heap[(G.lay x).rb]? := by
            rw [hg2.block _ (by rw [alloc_size]; have := RL.out; omega) (fun h => by have := (HVB.out _ h.symm).1; rw [h2] at this; simp at this), alloc_lt _ _ RL.out]
          exact ⟨by rw [World.cell?_of_block e]; exact r2, fun i => by rw [World.frozen?_of_block e]; exact rz i⟩
        go_wp2_with (at_builtin; refine wpList_append_own_at _ rfl (.tmp 36) (.tmp 38) 33 rfl G.w0.heap.size 9 ii (.string ⟨#[]⟩) 1 16 Try.underlying33 k1 k2 k3 k4 rfl (by omega) v nf zs rfl HF1.out ⟨w.heap.size, 0, none⟩ 1 1 [.string s] rfl rfl HN.out (by simp [Value.oneCell']) B1.out B2.out B3.out ?_; intro v' w2 hown2 hg2 hnil2 hloc2; obtain ⟨gf, cf, rfl⟩ := own_shape hown2; obtain ⟨c2, z2⟩ := C2.out _ hg2; have H2 := hid (And.intro hown2 (And.intro hg2 hloc2)); clear hown2 hg2 hnil2 hloc2)
        go_meet
        case rel =>
          obtain ⟨hown2, hg2, hloc2⟩ := H2.out
          obtain ⟨G2, O2⟩ := OO.out.fresh hx HF.out HVB.out hown2 hg2 hloc2 HNF.out
          exact ⟨G2, _, O2⟩
      case rest =>
        clear OO HF HVB HNF r0 r2 rz
        obtain ⟨G2, v2, O⟩ := hcut
        have OO := hid O
        have r0 : wc.cell? ⟨(G.lay x).rb, 0, none⟩ = some (.slice ad n c) := (cell_of O.hr _).trans rfl
        have rz := fz_of O.hr
        clear O RL
        go_upto_block 2 with fail
        go_cut [8] (fun s8 wd => wc = wd ∧ ∃ p : Nat, p ≤ n ∧ s8 = .int .i64 p ∧ (∀ i, i < p → Op.bytesLess s.toList ((G.rs x).getD i .empty).toList = false) ∧ (p < n → Op.bytesLess s.toList ((G.rs x).getD p .empty).toList = true))
        case first =>
          go_wp2_with fail
          go_loopg [8, 9] n (fun k a i wr => wc = wr ∧ ∃ j : Nat, j + k = n ∧ i = .int .i64 j ∧ a = .int .i64 n ∧ ∀ i, i < j → Op.bytesLess s.toList ((G.rs x).getD i .empty).toList = false)
          case atStart => exact ⟨rfl, 0, by omega, rfl, rfl, by omega⟩
          case round =>
            obtain ⟨rfl, j2, hj2, rfl, rfl, hlo⟩ := hrel
            have J2 := hid hj2
            have LO := hid hlo
            clear hlo
            by_cases hlt2 : j2 < n
            · have hlt2' : (j2 : Int) < (n : Int) := by omega
              obtain ⟨g, rfl, cj, gz, hnc⟩ := OO.out.cell hlt2
              have e : ((G.rs x).map Value.string)[j2]? = some (.string ((G.rs x).getD j2 .empty)) := by have := HL.out; simp [show j2 < (G.rs x).length by omega]
              rw [e] at cj
              clear e hj2
              generalize hsj : (G.rs x).getD j2 .empty = sj at *
              have SJ := hid hsj
              clear hsj
              cases hb : Op.bytesLess s.toList sj.toList
              · have HB := hid hb
                go_wp2_with fail
                go_roundg (gk - 1)
                case measure => have := J2.out; omega
                case rel =>
                  refine ⟨rfl, j2 + 1, by have := J2.out; omega, rfl, rfl, fun i hi => ?_⟩
                  by_cases h' : i = j2
                  · subst h'; rw [SJ.out]; exact HB.out
                  · exact LO.out i (by omega)
              · have HB := hid hb
                go_wp2_with fail
                go_meet
                case rel => exact ⟨rfl, j2, by omega, rfl, LO.out, fun _ => by rw [SJ.out]; exact HB.out⟩
            · have hge2 : (n : Int) ≤ (j2 : Int) := by omega
              clear hj2
              go_wp2_with fail
              go_meet
              case rel => exact ⟨rfl, n, Nat.le_refl _, rfl, fun i hi => LO.out i (by omega), fun h => by omega⟩
        case rest =>
          obtain ⟨rfl, p, hp, rfl, hlo, hhi⟩ := hcut
          have P := hid (And.intro hp (And.intro hlo hhi))
          clear hlo hhi
          have HOW := hid OO.out.own
          have HF1 := hid (own_of_block (w' := wc.alloc (.cells #[.string ⟨#[]⟩] 9)) HOW.out (fun b hb => alloc_lt _ _ (own_lt HOW.out hb)))
          have HN := hid (cell_one_new wc (.string ⟨#[]⟩) 9)
          have B1 := hid (show n + 1 ≤ maxLen by unfold maxLen; omega)
          have B2 := hid (show (n + 1) * 16 ≤ 140737488355328 by omega)
          have B3 := hid (show G.w0.heap.size ≤ (wc.alloc (.cells #[.string ⟨#[]⟩] 9)).heap.size by have := OO.out.T.size; rw [OO.out.hw] at this; rw [alloc_size]; omega)
          have C2 : Hid (∀ w2, (wc.alloc (.cells #[.string ⟨#[]⟩] 9)).grownBy w2 (Value.slice ad n c).ownBlock → w2.cell? ⟨(G.lay x).rb, 0, none⟩ = some (.slice ad n c) ∧ ∀ i, w2.frozen? ⟨(G.lay x).rb, i, none⟩ = false) := by
            intro w2 hg2
            have h2 := OO.out.T.rb x (by rw [OO.out.hk]; exact hx)
            rw [OO.out.hl] at h2
            have hl := OO.out.T.lt h2 (by simp)
            have e : w2.heap[(G.lay x).rb]? = wc.heap[(G.lay x).rb]? := by
              rw [hg2.block _ (by rw [alloc_size]; omega) (fun h => by have := OO.out.any _ h.symm; rw [h2] at this; simp at this), alloc_lt _ _ hl]
            exact ⟨by rw [World.cell?_of_block e]; exact r0, fun i => by rw [World.frozen?_of_block e]; exact rz i⟩
          go_upto_region 16 with fail
          go_cut [8] (fun s8 wd => s8 = .int .i64 p ∧ ∃ G3 g3 c3, Op22 G G3 x (.slice (some ⟨g3, 0, none⟩) (n + 1) c3) v2 (n + 1) ((G.rs x).map .string ++ [.string ⟨#[]⟩]) wd)
          case first =>
            go_wp2_with (at_builtin; refine wpList_append_own_at _ rfl (.tmp 75) (.tmp 76) 33 rfl G.w0.heap.size 9 ii (.string ⟨#[]⟩) 1 16 Try.underlying33 k1 k2 k3 k4 rfl (by omega) (.slice ad n c) n ((G.rs x).map .string) rfl HF1.out ⟨wc.heap.size, 0, none⟩ 1 1 [.string ⟨#[]⟩] rfl rfl HN.out (by simp [Value.oneCell']) B1.out B2.out B3.out ?_; intro v' w2 hown2 hg2 hnil2 hloc2; obtain ⟨gf, cf, rfl⟩ := own_shape hown2; obtain ⟨c2, z2⟩ := C2.out _ hg2; have H2 := hid (And.intro hown2 (And.intro hg2 hloc2)); clear hown2 hg2 hnil2 hloc2)
            go_meet
            case rel =>
              obtain ⟨hown2, hg2, hloc2⟩ := H2.out
              obtain ⟨G3, O3⟩ := OO.out.grow hx hown2 hg2 hloc2
              exact ⟨rfl, G3, _, _, O3⟩
          case rest =>
            obtain ⟨rfl, G3, g3, c3, O3⟩ := hcut
            clear OO HOW HF1 HN B1 B2 B3 C2 r0 rz
            have r0 : wc.cell? ⟨(G.lay x).rb, 0, none⟩ = some (.slice (some ⟨g3, 0, none⟩) (n + 1) c3) := (cell_of O3.hr _).trans rfl
            have OO := hid O3
            clear O3
            go_wp2_with fail
            go_loopg [10] (n - p) (fun k i wr => ∃ (q : Nat) (xs : List Value), p ≤ q ∧ q ≤ n ∧ p + k = q ∧ i = .int .i64 q ∧ Op22 G G3 x (.slice (some ⟨g3, 0, none⟩) (n + 1) c3) v2 (n + 1) xs wr ∧ (∀ j, j < q → xs[j]? = some (.string ((G.rs x).getD j .empty))) ∧ ∀ j, q < j → j ≤ n → xs[j]? = some (.string ((G.rs x).getD (j - 1) .empty)))
            case atStart =>
              refine ⟨n, _, hp, Nat.le_refl _, by omega, by first | rfl | (congr 1; omega), OO.out, fun j hj => ?_, fun j h1 h2 => by omega⟩
              have := HL.out
              rw [List.getElem?_append_left (by simp; omega)]
              simp [show j < (G.rs x).length by omega]
            case round =>
              obtain ⟨q, xs, h1, h2, h3, rfl, O, c1, c2⟩ := hrel
              have q0 : wr.cell? ⟨(G.lay x).rb, 0, none⟩ = some (.slice (some ⟨g3, 0, none⟩) (n + 1) c3) := (cell_of O.hr _).trans rfl
              have OH := hid O
              have C1 := hid c1
              have C2 := hid c2
              have H3 := hid h3
              have H1 := hid h1
              have hxl : xs.length = n + 1 := by have := O.own.1; omega
              by_cases hqp : p < q
              · obtain ⟨q', rfl⟩ : ∃ q', q = q' + 1 := ⟨q - 1, by omega⟩
                have hqp' : (p : Int) < ((q' : Int) + 1) := by omega
                obtain ⟨_, e1, g0, gz, hnc⟩ := O.cell (i := q') (by omega)
                cases e1
                obtain ⟨_, e2, g1, _, _⟩ := O.cell (i := q' + 1) (by omega)
                cases e2
                rw [c1 q' (by omega)] at g0
                obtain ⟨y, hy⟩ : ∃ y, xs[q' + 1]? = some y := ⟨xs[q' + 1]'(by omega), by simp [show q' + 1 < xs.length by omega]⟩
                rw [hy] at g1
                have b1 : ((q' : Int) + 1 - 1) = (q' : Int) := by omega
                have b2 : (q' : Int) < ((n : Int) + 1) := by omega
                have b3 : ((q' : Int) + 1) < ((n : Int) + 1) := by omega
                have b4 : ((q' : Int) + 1).toNat = q' + 1 := by omega
                clear O c1 c2 h1 h3 r0 hxl hy
                generalize hA : (G.rs x).getD q' .empty = A0 at *
                have HA := hid hA
                clear hA
                go_wp2_with fail
                go_region
                go_wp2_with fail
                go_roundg (gk - 1)
                case measure => have := H3.out; omega
                case rel =>
                  have h1 := H1.out
                  have h3 := H3.out
                  refine ⟨q', xs.set (q' + 1) (.string A0), by omega, by omega, by omega, rfl, (OH.out.store hx (q' + 1) (by omega) _).drew, fun j hj => ?_, fun j k1 k2 => ?_⟩
                  · rw [List.getElem?_set_ne (by omega)]; exact C1.out j (by omega)
                  · by_cases e : j = q' + 1
                    · subst e
                      have hxl : xs.length = n + 1 := by have := OH.out.own.1; omega
                      rw [List.getElem?_set_self (by omega), ← HA.out]; rfl
                    · rw [List.getElem?_set_ne (by omega)]; exact C2.out j (by omega) k2
              · have hqp' : (q : Int) ≤ (p : Int) := by omega
                obtain rfl : q = p := by omega
                obtain ⟨_, e2, g1, gz, hnc⟩ := O.cell (i := q) (by omega)
                cases e2
                obtain ⟨y, hy⟩ : ∃ y, xs[q]? = some y := ⟨xs[q]'(by omega), by simp [show q < xs.length by omega]⟩
                rw [hy] at g1
                have b3 : (q : Int) < ((n : Int) + 1) := by omega
                clear O c1 c2 h1 h3 r0 hy
                have HXL := hid hxl
                clear hxl
                go_wp2_with fail
                refine bodyPost_ret (results_none rfl _ _ _) rfl ?_
                have hl := HL.out
                obtain ⟨hp, hlo, hhi⟩ := P.out
                obtain ⟨i0, hi0, hs0⟩ := HSI.out
                have k5 := K5.out
                have hsrt := sorted_ins SRT.out (show i0 < 5 by omega) hs0 (fun t ht => by obtain ⟨⟨i, h1, h2⟩, _⟩ := RID.out t ht; exact ⟨i, by omega, h2⟩) HS.out (show q ≤ (G.rs x).length by omega) hlo (fun h => hhi (by omega))
                have hO := OH.out.store hx q (by omega) (.string s)
                have hxl := HXL.out
                have e : xs.set q (.string s) = (insAt (G.rs x) q s).map .string := by
                  apply List.ext_getElem?
                  intro j
                  unfold insAt
                  by_cases hj : j < n + 1
                  · rcases Nat.lt_trichotomy j q with h | h | h
                    · rw [List.getElem?_set_ne (by omega), C1.out j h]
                      simp only [List.map_append, List.map_take]
                      rw [List.getElem?_append_left (by simp; omega), List.getElem?_take_of_lt h]
                      simp [show j < (G.rs x).length by omega]
                    · subst h
                      rw [List.getElem?_set_self (by omega)]
                      simp only [List.map_append, List.map_take, List.map_cons]
                      rw [List.getElem?_append_right (by simp; omega)]
                      simp [show min j (G.rs x).length = j by omega]
                    · rw [List.getElem?_set_ne (by omega), C2.out j h (by omega)]
                      simp only [List.map_append, List.map_take, List.map_cons, List.map_drop]
                      rw [List.getElem?_append_right (by simp; omega)]
                      simp only [List.length_take, List.length_map, show min q (G.rs x).length = q by omega]
                      obtain ⟨m, hm⟩ : ∃ m, j - q = m + 1 := ⟨j - q - 1, by omega⟩
                      rw [hm, List.getElem?_cons_succ, List.getElem?_drop]
                      rw [show q + m = j - 1 by omega]
                      simp [show j - 1 < (G.rs x).length by omega]
                  · rw [List.getElem?_eq_none (by simp; omega), List.getElem?_eq_none (by simp; omega)]
                rw [e] at hO
                obtain ⟨G', g1, g2, g3, g4⟩ := hO.shut hx hsrt (fun t ht => by
                  rcases mem_ins.1 ht with h | h
                  · exact RID.out t h
                  · rw [h]; exact ⟨HSI.out, HSX.out⟩)
                exact ⟨rfl, G', _, g1, g2, g3, g4, fun t => mem_ins⟩
end Go.Proofs.Qxb6002353a
