/-
  THE WALKS OF merge.ZZCompare (function 14) and zzSameBools (function 17).
-/
import Derived.Test.Qxb6601687aCompE
namespace Go.Proofs.Qxb6601687a
open Go.RowKit
set_option linter.unusedVariables false
set_option linter.unusedSimpArgs false

/-- a row of bools -/
def Dv (w : World) (b n : Nat) (g : Nat → Bool) : Prop := ∃ arr, w.heap[b]? = some (.cells arr 4 (0, 0)) ∧ arr.size = n ∧ ∀ i, i < n → arr[i]? = some (.bool (g i))

theorem Dv.cell {w b n g} (h : Dv w b n g) (i : Nat) (hi : i < n) : w.cell? ⟨b, i, none⟩ = some (.bool (g i)) := by
  obtain ⟨arr, h1, h2, h3⟩ := h
  simp [World.cell?, h1, h3 i hi]
theorem Dv.of_block {w w' : World} {b n g} (h : Dv w b n g) (he : w'.heap[b]? = w.heap[b]?) : Dv w' b n g := by
  obtain ⟨arr, h1, h2, h3⟩ := h
  exact ⟨arr, he.trans h1, h2, h3⟩
theorem Dv.lt {w b n g} (h : Dv w b n g) : b < w.heap.size := by
  obtain ⟨arr, h1, h2, h3⟩ := h
  rcases Nat.lt_or_ge b w.heap.size with h | h
  · exact h
  · rw [Array.getElem?_eq_none h] at h1; cases h1

/-- of what was there only the marks have turned -/
structure Fo (db ib : Nat) (w w' : World) : Prop where
  os : w'.os = w.os
  tape : w'.tape = w.tape
  output : w'.output = w.output
  size : w.heap.size ≤ w'.heap.size
  block : ∀ k, k < w.heap.size → k ≠ db → k ≠ ib → w'.heap[k]? = w.heap[k]?

def C14 (w : World) (aa ba : Option Addr) (ab bb db ib la ca lb cb : Nat) (A B : Nat → Int) : C32 :=
  { pd := w.heap.size, ab := ab, bb := bb, db := db, ib := ib, la := la, ca := ca, lb := lb, cb := cb, va := .slice aa la ca, vb := .slice ba lb cb, A := A, B := B }

set_option maxHeartbeats 2000000 in
theorem zc_any (aa ba : Option Addr) (ab bb db ib la ca lb cb : Nat) (A B : Nat → Int) (dl il : Nat → Bool) (i0 i1 j0 j1 : Nat) (s : Int) (w : World) (hi : i0 ≤ i1) (hj : j0 ≤ j1) (hla1 : i1 ≤ la) (hlb1 : j1 ≤ lb) (hla : la ≤ 1024) (hlb : lb ≤ 1024)
    (hs0 : -2147483648 ≤ s) (hs1 : s ≤ 9223372036854775807)
    (haa : 0 < la → aa = some ⟨ab, 0, none⟩) (hba : 0 < lb → ba = some ⟨bb, 0, none⟩)
    (hab : ab < w.heap.size ∨ w.heap.size + 2 < ab) (hbb : bb < w.heap.size ∨ w.heap.size + 2 < bb)
    (e5 : ab ≠ db) (e6 : bb ≠ db) (e7 : ab ≠ ib) (e8 : bb ≠ ib) (e9 : db ≠ ib)
    (cA : ∀ i, i < la → w.cell? ⟨ab, i, none⟩ = some (.int .i32 (A i))) (cB : ∀ i, i < lb → w.cell? ⟨bb, i, none⟩ = some (.int .i32 (B i)))
    (hd : Dv w db la dl) (hv : Dv w ib lb il) :
    Calls Try.prog 14 #[.slice aa la ca, .slice ba lb cb, .slice (some ⟨db, 0, none⟩) la la, .slice (some ⟨ib, 0, none⟩) lb lb, .int .i64 s, .int .i64 i0, .int .i64 i1, .int .i64 j0, .int .i64 j1] w fun e w' =>
      e = .returned (.tuple #[.bool (My.cmp A B ((i1 - i0) + (j1 - j0) + 1) i0 i1 j0 j1 (dl, il, s)).1, .int .i64 (My.cmp A B ((i1 - i0) + (j1 - j0) + 1) i0 i1 j0 j1 (dl, il, s)).2.2.2]) ∧
      Dv w' db la (My.cmp A B ((i1 - i0) + (j1 - j0) + 1) i0 i1 j0 j1 (dl, il, s)).2.1 ∧ Dv w' ib lb (My.cmp A B ((i1 - i0) + (j1 - j0) + 1) i0 i1 j0 j1 (dl, il, s)).2.2.1 ∧ Fo db ib w w' := by
  have hdb := hd.lt
  have hib := hv.lt
  have sz : Sz2 (C14 w aa ba ab bb db ib la ca lb cb A B) := by
    constructor <;> simp only [C14]
    all_goals first
      | omega
      | (intro h; rw [haa h])
      | (intro h; rw [hba h])
  have hmem : M (C14 w aa ba ab bb db ib la ca lb cb A B) (w.alloc (.cells #[.slice aa la ca, .slice ba lb cb, .slice (some ⟨db, 0, none⟩) la la, .slice (some ⟨ib, 0, none⟩) lb lb, .slice none 0 0, .slice none 0 0, .int .i64 s] 42)) dl il s (.slice none 0 0) (.slice none 0 0) := by
    have hk : ∀ k, k < w.heap.size → (w.alloc (.cells #[.slice aa la ca, .slice ba lb cb, .slice (some ⟨db, 0, none⟩) la la, .slice (some ⟨ib, 0, none⟩) lb lb, .slice none 0 0, .slice none 0 0, .int .i64 s] 42)).heap[k]? = w.heap[k]? := fun k hk => Below.heap_alloc _ _ _ hk
    refine ⟨?_, hd.of_block (hk db hdb), hv.of_block (hk ib hib), fun i hi => ?_, fun i hi => ?_⟩
    · show (w.heap.push _)[w.heap.size]? = _
      rw [Array.getElem?_push, if_pos rfl]; rfl
    · have hc := cA i hi
      rw [World.cell?_of_block (w := w) (hk ab (cell_lt hc))]; exact hc
    · have hc := cB i hi
      rw [World.cell?_of_block (w := w) (hk bb (cell_lt hc))]; exact hc
  have SZ : Hid (Sz2 (C14 w aa ba ab bb db ib la ca lb cb A B)) := sz
  have MEM : Hid (M (C14 w aa ba ab bb db ib la ca lb cb A B) (w.alloc (.cells #[.slice aa la ca, .slice ba lb cb, .slice (some ⟨db, 0, none⟩) la la, .slice (some ⟨ib, 0, none⟩) lb lb, .slice none 0 0, .slice none 0 0, .int .i64 s] 42)) dl il s (.slice none 0 0) (.slice none 0 0)) := hmem
  have HAB : Hid (ab ≠ w.heap.size + 1 ∧ ab ≠ w.heap.size + 1 + 1) := by show _ ∧ _; omega
  have HBB : Hid (bb ≠ w.heap.size + 1 ∧ bb ≠ w.heap.size + 1 + 1) := by show _ ∧ _; omega
  clear sz hmem haa hba hab hbb e5 e6 e7 e8 e9 cA cB hd hv
  have hwsz : ∀ o, (w.alloc o).heap.size = w.heap.size + 1 := fun o => by simp
  go_enter Try.func14, Try.ntmps14
  go_wp2_with fail
  refine (cmp_nil (C := C14 w aa ba ab bb db ib la ca lb cb A B) SZ.out i0 i1 j0 j1 dl il s _ hi hj hla1 hlb1 ((i1 - i0) + (j1 - j0)) (Nat.le_refl _) hs0 hs1 MEM.out (by rw [hwsz]; exact Nat.lt_succ_of_lt hdb) (by rw [hwsz]; exact Nat.lt_succ_of_lt hib) (by rw [hwsz]; exact HAB.out) (by rw [hwsz]; exact HBB.out)).mono ?_
  rintro e w1 ⟨rfl, ⟨vf, vg, mem1⟩, fm⟩
  have c6 : w1.cell? ⟨w.heap.size, 6, none⟩ = some (.int .i64 (My.cmp A B ((i1 - i0) + (j1 - j0) + 1) i0 i1 j0 j1 (dl, il, s)).2.2.2) := by
    have := mem1.dd
    simp only [C14] at this
    simp [World.cell?, this]
  have D1 : Hid (Dv w1 db la (My.cmp A B ((i1 - i0) + (j1 - j0) + 1) i0 i1 j0 j1 (dl, il, s)).2.1) := mem1.dv
  have D2 : Hid (Dv w1 ib lb (My.cmp A B ((i1 - i0) + (j1 - j0) + 1) i0 i1 j0 j1 (dl, il, s)).2.2.1) := mem1.iv
  have FO : Hid (Fo db ib w w1) := by
    refine ⟨fm.os, fm.tape, fm.output, ?_, fun k h0 h1 h2 => ?_⟩
    · have := fm.size; rw [hwsz] at this; omega
    · rw [fm.block k (by rw [hwsz]; omega) (by show k ≠ w.heap.size; omega) h1 h2]; exact Below.heap_alloc _ _ _ h0
  clear mem1 fm hwsz SZ MEM HAB HBB
  have ec : My.cmp (C14 w aa ba ab bb db ib la ca lb cb A B).A (C14 w aa ba ab bb db ib la ca lb cb A B).B ((i1 - i0) + (j1 - j0) + 1) i0 i1 j0 j1 (dl, il, s) = My.cmp A B ((i1 - i0) + (j1 - j0) + 1) i0 i1 j0 j1 (dl, il, s) := rfl
  rw [ec]
  clear ec
  generalize hr : My.cmp A B ((i1 - i0) + (j1 - j0) + 1) i0 i1 j0 j1 (dl, il, s) = r at *
  obtain ⟨ok, dl', il', s'⟩ := r
  have HR : Hid (My.cmp A B ((i1 - i0) + (j1 - j0) + 1) i0 i1 j0 j1 (dl, il, s) = (ok, dl', il', s')) := hr
  clear hr
  simp only [] at c6
  go_wp2_with fail
  go_quiet (fail)
  go_wp2_with fail
  go_ret2
  rw [HR.out]
  obtain ⟨r1, r2, r3⟩ := D1.out
  obtain ⟨r4, r5, r6⟩ := D2.out
  exact ⟨rfl, ⟨r1, r2, r3⟩, ⟨r4, r5, r6⟩, ⟨FO.out.os, FO.out.tape, FO.out.output, FO.out.size, FO.out.block⟩⟩

set_option maxHeartbeats 1000000 in
theorem same_any (b1 b2 n : Nat) (g : Nat → Bool) (w : World) (hn : n ≤ 1024) (h1 : ∀ i, i < n → w.cell? ⟨b1, i, none⟩ = some (.bool (g i))) (h2 : ∀ i, i < n → w.cell? ⟨b2, i, none⟩ = some (.bool (g i))) :
    Calls Try.prog 17 #[.slice (some ⟨b1, 0, none⟩) n n, .slice (some ⟨b2, 0, none⟩) n n] w fun e w' => e = .returned (.bool true) ∧ ∃ q, w' = w.drewN q := by
  go_enter Try.func17, Try.ntmps17
  go_wp2
  go_loopw [5] (fun i wr => ∃ k : Nat, k ≤ n ∧ i = .int .i64 k ∧ ∃ q, wr = w.drewN q) (fun i _ => n - (intOf i).toNat)
  case atStart => exact ⟨0, Nat.zero_le _, rfl, 0, rfl⟩
  case round =>
    obtain ⟨k, hk, rfl, q, rfl⟩ := hrel
    by_cases hlt : k < n
    · have c1 := h1 k hlt
      have c2 := h2 k hlt
      clear h1 h2
      go_wp2
      go_quiet (fail)
      go_wp2
      go_roundw
      case rel => exact ⟨k + 1, by omega, by go_num, _, rfl⟩
      case measure => simp [intOf]; omega
    · go_wp2
      go_ret
      exact ⟨rfl, _, rfl⟩
end Go.Proofs.Qxb6601687a
