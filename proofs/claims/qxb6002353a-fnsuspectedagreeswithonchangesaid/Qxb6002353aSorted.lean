/-
  SEAT b6002353a: slices.Sorted(maps.Keys(m)).
-/
import Derived.Test.Qxb6002353aColl
namespace Go.Proofs.Qxb6002353a
open Go.RowKit Go.Shelf
set_option linter.unusedVariables false
set_option linter.unusedSimpArgs false

/-- what slices.Sorted hands back -/
def SortedPost (G : Gh) (w : World) (e : Ending) (w' : World) : Prop := ∃ v G1 l, e = .returned v ∧ Le 0 G G1 ∧ Typed w' G1 ∧ (∀ b, v.ownBlock = some b → (G1.kd b).t = 15 ∧ (G.kd b).t = 0) ∧ w'.ownsRow G1.w0.heap.size 9 1 v l.length (l.map Value.string) ∧ (∀ s ∈ l, ID G s) ∧ sorted l ∧ G1.qs = G.qs ∧ G1.rs = G.rs ∧ ∀ b, b < w.heap.size → w'.heap[b]? = w.heap[b]?

theorem gives69 (F : Fence) (n : Nat) (hf : F.fn 69) (hro : F.round = none) (hn : 1 ≤ n) (Bm b : Nat) (es : Array MapEntry) (c : Nat) (hst : MapKept.Stamped es c) (hks : ∀ e ∈ es.toList, ∃ s, e.key = Value.string s) (w : World) (hBm : Bm < w.heap.size)
    (hm : w.cell? ⟨Bm, 0, none⟩ = some (.map (some b))) (hb : w.heap[b]? = some (.map es c)) :
    SeqGives F n Try.prog 69 #[.pointer (some ⟨Bm, 0, none⟩)] Value.string (KeysOf es) es.size w := fun l J W hW hJ hY h0 => by
  have hbl : b < w.heap.size := (Array.getElem?_eq_some_iff.1 hb).1
  exact keys69_in F n hf hro hn l Bm b es c hst hks J hY W hJ ((hW.cell (p := ⟨Bm, 0, none⟩) hBm).trans hm) ((hW.block b hbl).trans hb) h0

set_option maxHeartbeats 2000000 in
theorem c44 (b : Nat) (w : World) : Calls Try.prog 44 #[.map (some b)] w fun e w' => e = .returned (.func (.func 69) #[] #[.pointer (some ⟨w.heap.size, 0, none⟩)]) ∧ w' = w.alloc (.cells #[.map (some b)] 62) := by
  go_enter Try.func44, Try.ntmps44
  go_wp2_with fail
  go_ret
  exact ⟨rfl, rfl⟩

theorem c68_69 (Bm b : Nat) (es : Array MapEntry) (c : Nat) (hst : MapKept.Stamped es c) (hes : es.size ≤ 5) (hks : ∀ e ∈ es.toList, ∃ s, e.key = Value.string s) (w : World) (hBm : Bm < w.heap.size) (hm : w.cell? ⟨Bm, 0, none⟩ = some (.map (some b))) (hb : w.heap[b]? = some (.map es c)) :
    Calls Try.prog 68 #[.func (.func 69) #[] #[.pointer (some ⟨Bm, 0, none⟩)]] w fun e w' => ∃ (v : Value) (ss : List ByteArray), e = .returned v ∧ KeysOf es ss ∧ w'.ownsRow w.heap.size 9 1 v ss.length (ss.map Value.string) ∧ (v = .slice none 0 0 ↔ ss = []) ∧ Below w.heap.size w w' :=
  callsIn_wide.1 (kc_collect_in Fence.wide 5 trivial trivial rfl (by omega) 69 _ trivial (enters_of Try.func69 (by kernel_rfl) rfl) _ es.size (by unfold maxLen; omega) (by omega) w (gives69 _ _ trivial rfl (by omega) Bm b es c hst hks w hBm hm hb))

set_option maxHeartbeats 2000000 in
set_option maxRecDepth 100000 in
/-- the sorted names of a map that the node holds -/
theorem c43_69 {w G} {Bm b : Nat} {es : Array MapEntry} {c : Nat} (T : Typed w G) (hB : G.kd Bm = kEx (.cells #[.map (some b)] 62 (0, 0))) (hb : w.heap[b]? = some (.map es c)) (hst : MapKept.Stamped es c) (hks : ∀ e ∈ es.toList, ∃ s, e.key = Value.string s ∧ ID G s) :
    Calls Try.prog 43 #[.func (.func 69) #[] #[.pointer (some ⟨Bm, 0, none⟩)]] w fun e w' => SortedPost G w e w' := by
  have hes : es.size ≤ 5 := Nat.le_trans (keys_len hst hks) T.T.k5
  have hm : w.cell? ⟨Bm, 0, none⟩ = some (.map (some b)) := (cell_of (T.T.exact hB id) _).trans rfl
  have C := hid (c68_69 Bm b es c hst hes (fun e he => by obtain ⟨s, h, _⟩ := hks e he; exact ⟨s, h⟩) w (T.T.lt hB (by simp)) hm hb)
  have HK := hid hks
  have A := hid T
  clear hm hst hes hks hb hB T
  go_enter Try.func43, Try.ntmps43
  go_wp2_with fail
  refine C.out.mono ?_
  rintro e w' ⟨v, ss, rfl, hS, hown, hnil, hbel⟩
  have g : w.grownBy w' none := ⟨hbel.os, hbel.tape, hbel.output, hbel.size, fun k hk _ => hbel.block k hk⟩
  have T1 : Typed w' (G.grow w.heap.size w'.heap.size) := ⟨A.out.T.grown g (fun b h => by cases h), A.out.A⟩
  have L1 := Le.grow A.out.T w'.heap.size
  have hid1 : ∀ s ∈ ss, ID G s := fun s hs => by
    obtain ⟨e, h1, h2⟩ := hS.2.2 s hs
    obtain ⟨t, h3, h4⟩ := HK.out e h1
    rw [h2] at h3; cases h3; exact h4
  have hk5 := A.out.T.k5
  have hsz := A.out.T.size
  have vk : ∀ b, v.ownBlock = some b → ((G.grow w.heap.size w'.heap.size).kd b).t = 15 := fun b hb => by
    have hl := own_lt hown hb
    have hge : w.heap.size ≤ b := by
      rcases hown.2 with ⟨rfl, _⟩ | ⟨g, cap, cur, rfl, k1, _⟩
      · cases hb
      · cases hb; exact k1
    rw [Gh.grow_in _ hge hl]
  have vf : ∀ b, v.ownBlock = some b → (G.kd b).t = 0 ∧ w.heap.size ≤ b := fun b hb => by
    have hge : w.heap.size ≤ b := by
      rcases hown.2 with ⟨rfl, _⟩ | ⟨g, cap, cur, rfl, k1, _⟩
      · cases hb
      · cases hb; exact k1
    exact ⟨by rw [A.out.T.fr b hge], hge⟩
  have own2 : w'.ownsRow (G.grow w.heap.size w'.heap.size).w0.heap.size 9 1 v ss.length (ss.map Value.string) := by
    refine ⟨hown.1, ?_⟩
    rcases hown.2 with h | ⟨g, cap, cur, h1, h2, h3⟩
    · exact .inl h
    · exact .inr ⟨g, cap, cur, h1, Nat.le_trans hsz h2, h3⟩
  have C2 := hid (sort_owned T1 vk own2 (fun s hs => by obtain ⟨i, h1, h2⟩ := hid1 s hs; exact ⟨i, by omega, h2⟩) hS.1)
  have X := hid (And.intro L1 (And.intro (fun b hb => And.intro (vk b hb) (vf b hb)) (And.intro hid1 (And.intro hS.2.1 hbel))))
  clear T1 L1 vk vf own2 hS hown hnil hbel g hid1 hsz hk5
  go_wp2_with fail
  refine C2.out.mono ?_
  rintro e w2 ⟨rfl, h⟩
  have H := hid h
  clear h
  go_wp2_with fail
  go_ret
  obtain ⟨T2, hfr, l, h1, h2, h3, h4⟩ := H.out
  obtain ⟨L1, vk, hi, hl, hb2⟩ := X.out
  have := T2.T.k5
  refine ⟨v, _, l, rfl, L1, T2, (fun b hb => ⟨(vk b hb).1, (vk b hb).2.1⟩), h4, fun s hs => hi s ((h2 s).1 hs), h1, rfl, rfl, fun b hb => ?_⟩
  rw [hfr b (fun e => by have := (vk b e).2.2; omega)]; exact hb2.block b hb

theorem gives71 (F : Fence) (n : Nat) (hf : F.fn 71) (hro : F.round = none) (hn : 1 ≤ n) (Bm b : Nat) (es : Array MapEntry) (c : Nat) (hst : MapKept.Stamped es c) (hks : ∀ e ∈ es.toList, ∃ s, e.key = Value.string s) (w : World) (hBm : Bm < w.heap.size)
    (hm : w.cell? ⟨Bm, 0, none⟩ = some (.map (some b))) (hb : w.heap[b]? = some (.map es c)) :
    SeqGives F n Try.prog 71 #[.pointer (some ⟨Bm, 0, none⟩)] Value.string (KeysOf es) es.size w := fun l J W hW hJ hY h0 => by
  have hbl : b < w.heap.size := (Array.getElem?_eq_some_iff.1 hb).1
  exact keys71_in F n hf hro hn l Bm b es c hst hks J hY W hJ ((hW.cell (p := ⟨Bm, 0, none⟩) hBm).trans hm) ((hW.block b hbl).trans hb) h0

set_option maxHeartbeats 2000000 in
theorem c50 (b : Nat) (w : World) : Calls Try.prog 50 #[.map (some b)] w fun e w' => e = .returned (.func (.func 71) #[] #[.pointer (some ⟨w.heap.size, 0, none⟩)]) ∧ w' = w.alloc (.cells #[.map (some b)] 61) := by
  go_enter Try.func50, Try.ntmps50
  go_wp2_with fail
  go_ret
  exact ⟨rfl, rfl⟩

theorem c68_71 (Bm b : Nat) (es : Array MapEntry) (c : Nat) (hst : MapKept.Stamped es c) (hes : es.size ≤ 5) (hks : ∀ e ∈ es.toList, ∃ s, e.key = Value.string s) (w : World) (hBm : Bm < w.heap.size) (hm : w.cell? ⟨Bm, 0, none⟩ = some (.map (some b))) (hb : w.heap[b]? = some (.map es c)) :
    Calls Try.prog 68 #[.func (.func 71) #[] #[.pointer (some ⟨Bm, 0, none⟩)]] w fun e w' => ∃ (v : Value) (ss : List ByteArray), e = .returned v ∧ KeysOf es ss ∧ w'.ownsRow w.heap.size 9 1 v ss.length (ss.map Value.string) ∧ (v = .slice none 0 0 ↔ ss = []) ∧ Below w.heap.size w w' :=
  callsIn_wide.1 (kc_collect_in Fence.wide 5 trivial trivial rfl (by omega) 71 _ trivial (enters_of Try.func71 (by kernel_rfl) rfl) _ es.size (by unfold maxLen; omega) (by omega) w (gives71 _ _ trivial rfl (by omega) Bm b es c hst hks w hBm hm hb))

set_option maxHeartbeats 2000000 in
set_option maxRecDepth 100000 in
/-- the sorted names of a map that the node holds -/
theorem c43_71 {w G} {Bm b : Nat} {es : Array MapEntry} {c : Nat} (T : Typed w G) (hB : G.kd Bm = kEx (.cells #[.map (some b)] 61 (0, 0))) (hb : w.heap[b]? = some (.map es c)) (hst : MapKept.Stamped es c) (hks : ∀ e ∈ es.toList, ∃ s, e.key = Value.string s ∧ ID G s) :
    Calls Try.prog 43 #[.func (.func 71) #[] #[.pointer (some ⟨Bm, 0, none⟩)]] w fun e w' => SortedPost G w e w' := by
  have hes : es.size ≤ 5 := Nat.le_trans (keys_len hst hks) T.T.k5
  have hm : w.cell? ⟨Bm, 0, none⟩ = some (.map (some b)) := (cell_of (T.T.exact hB id) _).trans rfl
  have C := hid (c68_71 Bm b es c hst hes (fun e he => by obtain ⟨s, h, _⟩ := hks e he; exact ⟨s, h⟩) w (T.T.lt hB (by simp)) hm hb)
  have HK := hid hks
  have A := hid T
  clear hm hst hes hks hb hB T
  go_enter Try.func43, Try.ntmps43
  go_wp2_with fail
  refine C.out.mono ?_
  rintro e w' ⟨v, ss, rfl, hS, hown, hnil, hbel⟩
  have g : w.grownBy w' none := ⟨hbel.os, hbel.tape, hbel.output, hbel.size, fun k hk _ => hbel.block k hk⟩
  have T1 : Typed w' (G.grow w.heap.size w'.heap.size) := ⟨A.out.T.grown g (fun b h => by cases h), A.out.A⟩
  have L1 := Le.grow A.out.T w'.heap.size
  have hid1 : ∀ s ∈ ss, ID G s := fun s hs => by
    obtain ⟨e, h1, h2⟩ := hS.2.2 s hs
    obtain ⟨t, h3, h4⟩ := HK.out e h1
    rw [h2] at h3; cases h3; exact h4
  have hk5 := A.out.T.k5
  have hsz := A.out.T.size
  have vk : ∀ b, v.ownBlock = some b → ((G.grow w.heap.size w'.heap.size).kd b).t = 15 := fun b hb => by
    have hl := own_lt hown hb
    have hge : w.heap.size ≤ b := by
      rcases hown.2 with ⟨rfl, _⟩ | ⟨g, cap, cur, rfl, k1, _⟩
      · cases hb
      · cases hb; exact k1
    rw [Gh.grow_in _ hge hl]
  have vf : ∀ b, v.ownBlock = some b → (G.kd b).t = 0 ∧ w.heap.size ≤ b := fun b hb => by
    have hge : w.heap.size ≤ b := by
      rcases hown.2 with ⟨rfl, _⟩ | ⟨g, cap, cur, rfl, k1, _⟩
      · cases hb
      · cases hb; exact k1
    exact ⟨by rw [A.out.T.fr b hge], hge⟩
  have own2 : w'.ownsRow (G.grow w.heap.size w'.heap.size).w0.heap.size 9 1 v ss.length (ss.map Value.string) := by
    refine ⟨hown.1, ?_⟩
    rcases hown.2 with h | ⟨g, cap, cur, h1, h2, h3⟩
    · exact .inl h
    · exact .inr ⟨g, cap, cur, h1, Nat.le_trans hsz h2, h3⟩
  have C2 := hid (sort_owned T1 vk own2 (fun s hs => by obtain ⟨i, h1, h2⟩ := hid1 s hs; exact ⟨i, by omega, h2⟩) hS.1)
  have X := hid (And.intro L1 (And.intro (fun b hb => And.intro (vk b hb) (vf b hb)) (And.intro hid1 (And.intro hS.2.1 hbel))))
  clear T1 L1 vk vf own2 hS hown hnil hbel g hid1 hsz hk5
  go_wp2_with fail
  refine C2.out.mono ?_
  rintro e w2 ⟨rfl, h⟩
  have H := hid h
  clear h
  go_wp2_with fail
  go_ret
  obtain ⟨T2, hfr, l, h1, h2, h3, h4⟩ := H.out
  obtain ⟨L1, vk, hi, hl, hb2⟩ := X.out
  have := T2.T.k5
  refine ⟨v, _, l, rfl, L1, T2, (fun b hb => ⟨(vk b hb).1, (vk b hb).2.1⟩), h4, fun s hs => hi s ((h2 s).1 hs), h1, rfl, rfl, fun b hb => ?_⟩
  rw [hfr b (fun e => by have := (vk b e).2.2; omega)]; exact hb2.block b hb

end Go.Proofs.Qxb6002353a
