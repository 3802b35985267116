/-
  SEAT b6002353a: slices.Sorted(maps.Keys(m)): the iterator.
-/
import Derived.Test.Qxb6002353aSusp
import Derived.RangeFuncGives
import Derived.OwnWalkIn
import Derived.TacticsInMore
import Derived.RegionIn
import Derived.LoopNIn
import Derived.LoopIn
namespace Go.Proofs.Qxb6002353a
open Go.RowKit
open Go.ChangeMaps (setBlock)
set_option linter.unusedVariables false
set_option linter.unusedSimpArgs false

/-- how many entries are still to come -/
def itLeft (es : Array MapEntry) (r : Nat) (w : World) : Nat := match w.heap[r]? with | some (.mapIter _ _ seen _) => (leftOf es seen).size | _ => 0
/-- some of a map's keys, none twice -/
def KeysOf (es : Array MapEntry) (ss : List ByteArray) : Prop := ss.Nodup ∧ ss.length ≤ es.size ∧ ∀ s ∈ ss, ∃ e ∈ es.toList, e.key = Value.string s

set_option maxRecDepth 100000 in
set_option maxHeartbeats 2000000 in
/-- the iterator over a map's keys: each comes, none twice -/
theorem keys69_in (F : Fence) (n : Nat) (hf : F.fn 69) (hro : F.round = none) (hn : 1 ≤ n) (l Bm b : Nat) (es : Array MapEntry) (c : Nat) (hst : MapKept.Stamped es c) (hks : ∀ e ∈ es.toList, ∃ s, e.key = Value.string s) (J : List ByteArray → World → Prop)
    (hY : ∀ pre x W, J pre W → pre.length < es.size → YieldAt F (n - 1) Try.prog l #[.string x] W fun e W' => e = .returned (.bool true) ∧ J (pre ++ [x]) W' ∧ KeepsWalks W W')
    (W : World) (hJ : AbidesFrom W.heap.size J) (hm : W.cell? ⟨Bm, 0, none⟩ = some (.map (some b))) (hb : W.heap[b]? = some (.map es c)) (h0 : J [] W) :
    CallsIn F n Try.prog 69 #[.func (.yield l) #[] #[], .pointer (some ⟨Bm, 0, none⟩)] W fun e W' => (∃ v, e = .returned v) ∧ ∃ ss : List ByteArray, KeysOf es ss ∧ J ss W' := by
  refine callsIn_of_wp Try.func69 rfl hf ?_ hro
  simp only [Try.ntmps69, List.size_toArray, List.length_cons, List.length_nil, Nat.reduceAdd, Nat.reduceSub, Array.replicate_succ, Array.replicate_zero, List.push_toArray, List.append_toArray, List.nil_append, List.cons_append]
  have rng := run_range_map (P := Try.prog) W 62 9 4 b es c Try.underlying62 hb
  have hbl : b < W.heap.size := (Array.getElem?_eq_some_iff.1 hb).1
  have g0 : W.grownBy (W.alloc (.mapIter (some b) c #[] c)) none := World.grownBy_alloc _ _ _
  gi_wp2
  gi_loopw [3] (fun _ wr => ∃ (seen : Array Nat) (ss : List ByteArray), wr.heap[W.heap.size]? = some (.mapIter (some b) c seen c) ∧ wr.heap[b]? = some (.map es c) ∧ ss.length + (leftOf es seen).size ≤ es.size ∧ ss.Nodup ∧ (∀ s ∈ ss, ∃ e ∈ es.toList, e.key = Value.string s ∧ seen.contains e.born = true) ∧ J ss wr)
    (fun _ wr => itLeft es W.heap.size wr)
  case atStart =>
    exact ⟨#[], [], heap_alloc_new _ _, by rw [alloc_lt _ _ hbl]; exact hb, (by simp only [leftOf, List.length_nil, Nat.zero_add]; exact Array.size_filter_le ..), List.nodup_nil, by simp, hJ [] W _ none h0 g0 (fun r e => by cases e)⟩
  case round =>
    obtain ⟨seen, ss, i1, i2, i3, i4, i5, i6⟩ := hrel
    rcases run_next_at (P := Try.prog) wr 0 W.heap.size b c c seen es c i1 i2 hst.1 (Nat.le_refl _) with ⟨hz, hrun⟩ | ⟨e, he, w1, hw1, hrun⟩
    · gi_wp2
      go_end0
      exact ⟨⟨_, rfl⟩, ss, ⟨i4, by omega, fun s hs => by obtain ⟨e, h1, h2, _⟩ := i5 s hs; exact ⟨e, h1, h2⟩⟩, i6⟩
    · obtain ⟨hem, hns⟩ := mem_left he
      obtain ⟨s, e1⟩ := hks e hem
      have hshr := left_shrinks es seen e he
      obtain ⟨W2, hW2⟩ : ∃ W2, W2 = setBlock w1 W.heap.size (.mapIter (some b) c (seen.push e.born) c) := ⟨_, rfl⟩
      have hh : w1.heap = wr.heap := by rcases hw1 with rfl | rfl <;> rfl
      have hrl : W.heap.size < wr.heap.size := (Array.getElem?_eq_some_iff.1 i1).1
      have n2 : W2.heap[W.heap.size]? = some (.mapIter (some b) c (seen.push e.born) c) := by
        rw [hW2]; show (w1.heap.setIfInBounds _ _)[_]? = _; rw [hh]; simp [hrl]
      have other : ∀ k, k ≠ W.heap.size → W2.heap[k]? = wr.heap[k]? := fun k hk => by
        rw [hW2]; show (w1.heap.setIfInBounds _ _)[_]? = _
        rw [Array.getElem?_setIfInBounds_ne (fun e => hk e.symm), hh]
      have n3 : W2.heap[b]? = some (.map es c) := by rw [other b (by omega)]; exact i2
      have g2 : wr.grownBy W2 (some W.heap.size) := by
        refine ⟨?_, ?_, ?_, ?_, fun k _ hk => other k (fun e => hk (by rw [e]))⟩
        · rw [hW2]; rcases hw1 with rfl | rfl <;> rfl
        · rw [hW2]; rcases hw1 with rfl | rfl <;> rfl
        · rw [hW2]; rcases hw1 with rfl | rfl <;> rfl
        · rw [hW2]; show _ ≤ (w1.heap.setIfInBounds _ _).size; rw [hh]; simp
      rw [← hW2] at hrun
      have hent := run_entry_at (P := Try.prog) W2 W.heap.size b c seen es c e n2 n3 hem hst.2.1
      have hJ2 : J ss W2 := hJ ss wr W2 (some W.heap.size) i6 g2 (fun r e => by cases e; exact ⟨Nat.le_refl _, _, i1, rfl⟩)
      obtain ⟨fn, tmps, assign, body, hy, hR⟩ := hY ss s W2 hJ2 (by omega)
      rw [e1] at hrun hent
      have m0 : itLeft es W.heap.size wr = (leftOf es seen).size := by simp [itLeft, i1]
      clear hW2 g2 other hh
      gi_wp2
      refine hR.mono ?_
      rintro e' W3 ⟨rfl, hJ3, hk3⟩
      have n2' := hk3.same _ _ n2 rfl
      have n3' := hk3.same _ _ n3 rfl
      have m1 : itLeft es W.heap.size W3 = (leftOf es (seen.push e.born)).size := by simp [itLeft, n2']
      gi_wp2
      go_roundw
      case rel =>
        refine ⟨seen.push e.born, ss ++ [s], n2', n3', by simp; omega, ?_, ?_, hJ3⟩
        · refine List.nodup_append.2 ⟨i4, by simp, fun a ha t ht => ?_⟩
          simp at ht
          subst ht
          rintro rfl
          obtain ⟨e', h1, h2, h3⟩ := i5 a ha
          have : e' = e := by
            obtain ⟨i, hi⟩ := List.mem_iff_getElem?.1 h1
            obtain ⟨j, hj⟩ := List.mem_iff_getElem?.1 hem
            have q1 : (es.toList.map (·.key))[i]? = some (Value.string a) := by simp only [List.getElem?_map, hi, Option.map_some, h2]
            have q2 : (es.toList.map (·.key))[j]? = some (Value.string a) := by simp only [List.getElem?_map, hj, Option.map_some, e1]
            have hij := (List.getElem?_inj (by have := (List.getElem?_eq_some_iff.1 hi).1; simpa using this) hst.2.2).1 (q1.trans q2.symm)
            subst hij
            rw [hi] at hj; exact Option.some.inj hj
          subst this
          rw [h3] at hns; cases hns
        · intro t ht
          rcases List.mem_append.1 ht with h | h
          · obtain ⟨e', h1, h2, h3⟩ := i5 t h
            exact ⟨e', h1, h2, by simp [Array.contains_iff_mem, Array.mem_push] at h3 ⊢; exact .inl h3⟩
          · simp at h; subst h
            exact ⟨e, hem, e1, by simp [Array.contains_iff_mem, Array.mem_push]⟩
      case measure => rw [m1, m0]; exact hshr

set_option maxRecDepth 100000 in
set_option maxHeartbeats 2000000 in
/-- the iterator over a map's keys: each comes, none twice -/
theorem keys71_in (F : Fence) (n : Nat) (hf : F.fn 71) (hro : F.round = none) (hn : 1 ≤ n) (l Bm b : Nat) (es : Array MapEntry) (c : Nat) (hst : MapKept.Stamped es c) (hks : ∀ e ∈ es.toList, ∃ s, e.key = Value.string s) (J : List ByteArray → World → Prop)
    (hY : ∀ pre x W, J pre W → pre.length < es.size → YieldAt F (n - 1) Try.prog l #[.string x] W fun e W' => e = .returned (.bool true) ∧ J (pre ++ [x]) W' ∧ KeepsWalks W W')
    (W : World) (hJ : AbidesFrom W.heap.size J) (hm : W.cell? ⟨Bm, 0, none⟩ = some (.map (some b))) (hb : W.heap[b]? = some (.map es c)) (h0 : J [] W) :
    CallsIn F n Try.prog 71 #[.func (.yield l) #[] #[], .pointer (some ⟨Bm, 0, none⟩)] W fun e W' => (∃ v, e = .returned v) ∧ ∃ ss : List ByteArray, KeysOf es ss ∧ J ss W' := by
  refine callsIn_of_wp Try.func71 rfl hf ?_ hro
  simp only [Try.ntmps71, List.size_toArray, List.length_cons, List.length_nil, Nat.reduceAdd, Nat.reduceSub, Array.replicate_succ, Array.replicate_zero, List.push_toArray, List.append_toArray, List.nil_append, List.cons_append]
  have rng := run_range_map (P := Try.prog) W 61 9 66 b es c Try.underlying61 hb
  have hbl : b < W.heap.size := (Array.getElem?_eq_some_iff.1 hb).1
  have g0 : W.grownBy (W.alloc (.mapIter (some b) c #[] c)) none := World.grownBy_alloc _ _ _
  gi_wp2
  gi_loopw [3] (fun _ wr => ∃ (seen : Array Nat) (ss : List ByteArray), wr.heap[W.heap.size]? = some (.mapIter (some b) c seen c) ∧ wr.heap[b]? = some (.map es c) ∧ ss.length + (leftOf es seen).size ≤ es.size ∧ ss.Nodup ∧ (∀ s ∈ ss, ∃ e ∈ es.toList, e.key = Value.string s ∧ seen.contains e.born = true) ∧ J ss wr)
    (fun _ wr => itLeft es W.heap.size wr)
  case atStart =>
    exact ⟨#[], [], heap_alloc_new _ _, by rw [alloc_lt _ _ hbl]; exact hb, (by simp only [leftOf, List.length_nil, Nat.zero_add]; exact Array.size_filter_le ..), List.nodup_nil, by simp, hJ [] W _ none h0 g0 (fun r e => by cases e)⟩
  case round =>
    obtain ⟨seen, ss, i1, i2, i3, i4, i5, i6⟩ := hrel
    rcases run_next_at (P := Try.prog) wr 0 W.heap.size b c c seen es c i1 i2 hst.1 (Nat.le_refl _) with ⟨hz, hrun⟩ | ⟨e, he, w1, hw1, hrun⟩
    · gi_wp2
      go_end0
      exact ⟨⟨_, rfl⟩, ss, ⟨i4, by omega, fun s hs => by obtain ⟨e, h1, h2, _⟩ := i5 s hs; exact ⟨e, h1, h2⟩⟩, i6⟩
    · obtain ⟨hem, hns⟩ := mem_left he
      obtain ⟨s, e1⟩ := hks e hem
      have hshr := left_shrinks es seen e he
      obtain ⟨W2, hW2⟩ : ∃ W2, W2 = setBlock w1 W.heap.size (.mapIter (some b) c (seen.push e.born) c) := ⟨_, rfl⟩
      have hh : w1.heap = wr.heap := by rcases hw1 with rfl | rfl <;> rfl
      have hrl : W.heap.size < wr.heap.size := (Array.getElem?_eq_some_iff.1 i1).1
      have n2 : W2.heap[W.heap.size]? = some (.mapIter (some b) c (seen.push e.born) c) := by
        rw [hW2]; show (w1.heap.setIfInBounds _ _)[_]? = _; rw [hh]; simp [hrl]
      have other : ∀ k, k ≠ W.heap.size → W2.heap[k]? = wr.heap[k]? := fun k hk => by
        rw [hW2]; show (w1.heap.setIfInBounds _ _)[_]? = _
        rw [Array.getElem?_setIfInBounds_ne (fun e => hk e.symm), hh]
      have n3 : W2.heap[b]? = some (.map es c) := by rw [other b (by omega)]; exact i2
      have g2 : wr.grownBy W2 (some W.heap.size) := by
        refine ⟨?_, ?_, ?_, ?_, fun k _ hk => other k (fun e => hk (by rw [e]))⟩
        · rw [hW2]; rcases hw1 with rfl | rfl <;> rfl
        · rw [hW2]; rcases hw1 with rfl | rfl <;> rfl
        · rw [hW2]; rcases hw1 with rfl | rfl <;> rfl
        · rw [hW2]; show _ ≤ (w1.heap.setIfInBounds _ _).size; rw [hh]; simp
      rw [← hW2] at hrun
      have hent := run_entry_at (P := Try.prog) W2 W.heap.size b c seen es c e n2 n3 hem hst.2.1
      have hJ2 : J ss W2 := hJ ss wr W2 (some W.heap.size) i6 g2 (fun r e => by cases e; exact ⟨Nat.le_refl _, _, i1, rfl⟩)
      obtain ⟨fn, tmps, assign, body, hy, hR⟩ := hY ss s W2 hJ2 (by omega)
      rw [e1] at hrun hent
      have m0 : itLeft es W.heap.size wr = (leftOf es seen).size := by simp [itLeft, i1]
      clear hW2 g2 other hh
      gi_wp2
      refine hR.mono ?_
      rintro e' W3 ⟨rfl, hJ3, hk3⟩
      have n2' := hk3.same _ _ n2 rfl
      have n3' := hk3.same _ _ n3 rfl
      have m1 : itLeft es W.heap.size W3 = (leftOf es (seen.push e.born)).size := by simp [itLeft, n2']
      gi_wp2
      go_roundw
      case rel =>
        refine ⟨seen.push e.born, ss ++ [s], n2', n3', by simp; omega, ?_, ?_, hJ3⟩
        · refine List.nodup_append.2 ⟨i4, by simp, fun a ha t ht => ?_⟩
          simp at ht
          subst ht
          rintro rfl
          obtain ⟨e', h1, h2, h3⟩ := i5 a ha
          have : e' = e := by
            obtain ⟨i, hi⟩ := List.mem_iff_getElem?.1 h1
            obtain ⟨j, hj⟩ := List.mem_iff_getElem?.1 hem
            have q1 : (es.toList.map (·.key))[i]? = some (Value.string a) := by simp only [List.getElem?_map, hi, Option.map_some, h2]
            have q2 : (es.toList.map (·.key))[j]? = some (Value.string a) := by simp only [List.getElem?_map, hj, Option.map_some, e1]
            have hij := (List.getElem?_inj (by have := (List.getElem?_eq_some_iff.1 hi).1; simpa using this) hst.2.2).1 (q1.trans q2.symm)
            subst hij
            rw [hi] at hj; exact Option.some.inj hj
          subst this
          rw [h3] at hns; cases hns
        · intro t ht
          rcases List.mem_append.1 ht with h | h
          · obtain ⟨e', h1, h2, h3⟩ := i5 t h
            exact ⟨e', h1, h2, by simp [Array.contains_iff_mem, Array.mem_push] at h3 ⊢; exact .inl h3⟩
          · simp at h; subst h
            exact ⟨e, hem, e1, by simp [Array.contains_iff_mem, Array.mem_push]⟩
      case measure => rw [m1, m0]; exact hshr

end Go.Proofs.Qxb6002353a
