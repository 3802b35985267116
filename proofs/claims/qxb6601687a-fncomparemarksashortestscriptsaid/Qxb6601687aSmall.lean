/-
  SMALL WALKS over seat b6601687a: the guards, the copies of the arguments.
-/
import Derived.Test.Qxb6601687aBase
namespace Go.Proofs.Qxb6601687a
open Go.RowKit
set_option linter.unusedVariables false
set_option linter.unusedSimpArgs false

theorem Try.info21 : (Try.prog.info? 21).map (fun i => (i.zero, i.size, i.bytes)) = some (some (.int .i32 0), 1, 4) := by kernel_rfl
theorem Try.info3 : (Try.prog.info? 3).map (fun i => (i.zero, i.size, i.bytes)) = some (some (.int .i64 0), 1, 8) := by kernel_rfl
theorem Try.info4 : (Try.prog.info? 4).map (fun i => (i.zero, i.size, i.bytes)) = some (some (.bool false), 1, 1) := by kernel_rfl

/-- a row of which k cells have been laid, n in all -/
def cp (f : Nat → Value) (z : Value) (n k : Nat) : Array Value := ((List.range n).map fun i => if i < k then f i else z).toArray

theorem cp_size (f : Nat → Value) (z : Value) (n k : Nat) : (cp f z n k).size = n := by simp [cp]
theorem cp_get (f : Nat → Value) (z : Value) (n k i : Nat) (h : i < n) : (cp f z n k)[i]? = some (if i < k then f i else z) := by
  simp [cp, h]
theorem cp_zero (f : Nat → Value) (z : Value) (n : Nat) (hz : z.cells = #[z]) : madeCells z.cells (n * 1) = cp f z n 0 := by
  apply Array.ext
  · simp [cp_size, size_madeCells]
  · intro i h1 h2
    simp [madeCells, cp, hz, Nat.mod_one]
theorem cp_succ (f : Nat → Value) (z : Value) (n k : Nat) : (cp f z n k).setIfInBounds k (f k) = cp f z n (k + 1) := by
  apply Array.ext_getElem?
  intro i
  by_cases hi : i < n
  · by_cases hik : k = i
    · subst hik
      rw [Array.getElem?_setIfInBounds_self_of_lt (by simpa [cp_size] using hi), cp_get _ _ _ _ _ hi, if_pos (by omega)]
    · rw [Array.getElem?_setIfInBounds_ne hik, cp_get _ _ _ _ _ hi, cp_get _ _ _ _ _ hi]
      by_cases h3 : i < k
      · rw [if_pos h3, if_pos (by omega)]
      · rw [if_neg h3, if_neg (by omega)]
  · rw [Array.getElem?_eq_none (by simp [cp_size]; omega), Array.getElem?_eq_none (by simp [cp_size]; omega)]

theorem make22 (n : Nat) (h : n ≤ 1000000) (w : World) : (Instr.makeSlice 22 (.int .i64 (n : Int)) (.int .i64 (n : Int))).run Try.prog w = .ok (.slice (some ⟨w.heap.size, 0, none⟩) n n) (w.alloc (.cells (madeCells (Value.int .i32 0).cells (n * 1)) 21)) := by
  obtain ⟨i0, hi, hz0, hz1, hz2⟩ := info_parts Try.info21
  have := run_make (P := Try.prog) w 22 21 i0 (.int .i32 0) Try.underlying22 hi hz0 .i64 .i64 n n (by omega) (Int.le_refl _) (by rw [hz2]; omega) (by omega)
  rw [hz1] at this
  simpa using this
theorem make25 (n : Nat) (h : n ≤ 1000000) (w : World) : (Instr.makeSlice 25 (.int .i64 (n : Int)) (.int .i64 (n : Int))).run Try.prog w = .ok (.slice (some ⟨w.heap.size, 0, none⟩) n n) (w.alloc (.cells (madeCells (Value.bool false).cells (n * 1)) 4)) := by
  obtain ⟨i0, hi, hz0, hz1, hz2⟩ := info_parts Try.info4
  have := run_make (P := Try.prog) w 25 4 i0 (.bool false) Try.underlying25 hi hz0 .i64 .i64 n n (by omega) (Int.le_refl _) (by rw [hz2]; omega) (by omega)
  rw [hz1] at this
  simpa using this
theorem make40 (n : Nat) (h : n ≤ 1000000) (w : World) : (Instr.makeSlice 40 (.int .i64 (n : Int)) (.int .i64 (n : Int))).run Try.prog w = .ok (.slice (some ⟨w.heap.size, 0, none⟩) n n) (w.alloc (.cells (madeCells (Value.int .i64 0).cells (n * 1)) 3)) := by
  obtain ⟨i0, hi, hz0, hz1, hz2⟩ := info_parts Try.info3
  have := run_make (P := Try.prog) w 40 3 i0 (.int .i64 0) Try.underlying40 hi hz0 .i64 .i64 n n (by omega) (Int.le_refl _) (by rw [hz2]; omega) (by omega)
  rw [hz1] at this
  simpa using this

theorem nil22 (w : World) (a : Option Addr) (n c n' c' : Nat) : (binOp .eql 22 (.slice a n c) (.slice none n' c')).run Try.prog w = .ok (.bool a.isNone) w := Lib.run_eql_slice_nil w _ _ a n c n' c' Try.underlying22
theorem nil25 (w : World) (a : Option Addr) (n c n' c' : Nat) : (binOp .eql 25 (.slice a n c) (.slice none n' c')).run Try.prog w = .ok (.bool a.isNone) w := Lib.run_eql_slice_nil w _ _ a n c n' c' Try.underlying25
theorem nil40 (w : World) (a : Option Addr) (n c n' c' : Nat) : (binOp .eql 40 (.slice a n c) (.slice none n' c')).run Try.prog w = .ok (.bool a.isNone) w := Lib.run_eql_slice_nil w _ _ a n c n' c' Try.underlying40

set_option maxHeartbeats 400000 in
theorem clone_nil (w : World) : Calls Try.prog 13 #[.slice none 0 0] w fun e w' => e = .returned (.slice none 0 0) ∧ w' = w := by
  have hq := nil22
  go_enter Try.func13, Try.ntmps13
  go_wp2
  go_ret
  exact ⟨rfl, rfl⟩

set_option maxHeartbeats 400000 in
theorem clone_zero (x : Addr) (cap : Nat) (w : World) : Calls Try.prog 13 #[.slice (some x) 0 cap] w fun e w' =>
    e = .returned (.slice (some ⟨w.heap.size, 0, none⟩) 0 0) ∧ w' = w.alloc (.cells #[] 21) := by
  have hq := nil22
  have hm : ∀ w, (Instr.makeSlice 22 (.int .i64 0) (.int .i64 0)).run Try.prog w = .ok (.slice (some ⟨w.heap.size, 0, none⟩) 0 0) (w.alloc (.cells #[] 21)) := by
    intro w
    have e0 : madeCells (Value.int .i32 0).cells (0 * 1) = #[] := by simp [madeCells]
    have := make22 0 (by omega) w
    rw [e0] at this
    exact this
  go_enter Try.func13, Try.ntmps13
  go_wp2
  refine wp_loop_rounds 1 ?_
  rw [rounds_succ]
  go_wp2
  go_ret
  exact ⟨rfl, rfl⟩

set_option maxHeartbeats 1000000 in
theorem clone_some (b off len cap : Nat) (f : Nat → Int) (w : World) (hl : len ≤ 1000000) (h0 : 0 < len) (hb : b < w.heap.size) (hc : ∀ i, i < len → w.cell? ⟨b, off + i, none⟩ = some (.int .i32 (f i))) :
    Calls Try.prog 13 #[.slice (some ⟨b, off, none⟩) len cap] w fun e w' =>
      e = .returned (.slice (some ⟨w.heap.size, 0, none⟩) len len) ∧ w' = w.alloc (.cells (cp (fun i => .int .i32 (f i)) (.int .i32 0) len len) 21) := by
  have hq := nil22
  have hm := fun w => make22 len hl w
  rw [cp_zero (fun i => .int .i32 (f i)) _ _ rfl] at hm
  go_enter Try.func13, Try.ntmps13
  go_wp2
  go_loopw [4] (fun i wr => ∃ k : Nat, k ≤ len ∧ i = .int .i64 k ∧ wr = w.alloc (.cells (cp (fun i => .int .i32 (f i)) (.int .i32 0) len k) 21)) (fun i _ => len - (intOf i).toNat)
  case atStart => exact ⟨0, Nat.zero_le _, rfl, rfl⟩
  case round =>
    obtain ⟨k, hk, rfl, rfl⟩ := hrel
    by_cases hlt : k < len
    · have hck := hc k hlt
      have hg : (w.alloc (.cells (cp (fun i => .int .i32 (f i)) (.int .i32 0) len k) 21)).cell? ⟨w.heap.size, k, none⟩ = some (.int .i32 0) := by
        rw [World.cell?_alloc_at (hn := rfl)]; rw [cp_get _ _ _ _ _ hlt, if_neg (by omega)]
      clear hc
      go_wp2
      go_roundw
      case rel => exact ⟨k + 1, by omega, by go_num, by rw [← cp_succ]⟩
      case measure => simp [intOf]; omega
    · obtain rfl : k = len := by omega
      go_wp2
      go_ret
      exact ⟨rfl, rfl⟩
end Go.Proofs.Qxb6601687a
