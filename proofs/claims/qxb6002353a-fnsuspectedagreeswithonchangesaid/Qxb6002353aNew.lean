/-
  SEAT b6002353a: New.
-/
import Derived.Test.Qxb6002353aReads
namespace Go.Proofs.Qxb6002353a
open Go.RowKit
open Go.ChangeMaps (setBlock)
open Go.MapKept (Stamped IsKey findNow_spec)
set_option linter.unusedVariables false
set_option linter.unusedSimpArgs false

theorem mk_map (t : TypeId) (w : World) : (Instr.makeMap t none).run Try.prog w = .ok (.map (some w.heap.size)) (w.alloc (.map #[] 0)) := rfl
theorem setBlock_alloc (w : World) (a b : Obj) : setBlock (w.alloc a) w.heap.size b = w.alloc b := by
  show ({ (w.alloc a) with heap := (w.heap.push a).setIfInBounds w.heap.size b } : World) = { w with heap := w.heap.push b }
  have e : (w.heap.push a).setIfInBounds w.heap.size b = w.heap.push b := by
    refine Array.ext (by simp) fun i h1 h2 => ?_
    rw [Array.getElem_setIfInBounds (by simpa using h1)]
    split
    · rename_i h; subst h; simp
    · rename_i h
      have : i < w.heap.size := by simp at h1; omega
      rw [Array.getElem_push_lt this, Array.getElem_push_lt this]
  rw [e]
  rfl
theorem ins_map (w : World) (s : ByteArray) (v : Value) : (Instr.mapUpdate 59 (.map (some w.heap.size)) (.string s) v).run Try.prog (w.alloc (.map #[] 0)) = .ok () (w.alloc (.map #[{ key := .string s, val := v, born := 0 }] 1)) := by
  have hb : (w.alloc (.map #[] 0)).heap[w.heap.size]? = some (.map #[] 0) := (MapKept.heap_alloc w _).1
  have hs : IsKey .string (.string s) := trivial
  rcases findNow_spec hs (#[] : Array MapEntry).toList 0 (fun x h => by simp at h) with ⟨h1, h2⟩ | ⟨j, x, h1, h2, h3⟩
  · refine Eq.trans ?_ (congrArg (Result.ok ()) (setBlock_alloc w (.map #[] 0) (.map #[{ key := .string s, val := v, born := 0 }] 1)))
    simp [Instr.mapUpdate, run_underlying Try.underlying59, MapKept.run_getObj_map hb, MapKept.run_checkKey Try.underlying9 hs, MapKept.run_findKey Try.underlying9 h1, MapKept.run_setObj_map _ hb, setBlock, Result.andThen]
  · simp at h2

/-- what New lays, one behind the other -/
def newWorld (w : World) (s : ByteArray) (lf al : Int) (cb : Nat) : World :=
  ((((((w.alloc (.cells #[.int .i64 lf, .int .i64 al, .func (.func 21) #[] #[.pointer (some ⟨cb, 0, none⟩)]] 55)).alloc
    (.cells #[.string s, .bool true, .int .u64 0, .int .u64 0, .bool false, .bool false, .bool false, .bool false, .int .u64 0, .int .u64 0, .int .u64 0, .bool false, .int .u64 0, .bool false, .bool false] 73)).alloc
    (.map #[{ key := .string s, val := .pointer (some ⟨w.heap.size + 1, 0, none⟩), born := 0 }] 1)).alloc
    (.cells #[.pointer (some ⟨w.heap.size + 1, 0, none⟩)] 74)).alloc (.map #[] 0)).alloc (.map #[] 0)).alloc
    (.cells #[.string s, .int .i64 lf, .int .i64 al, .func (.func 21) #[] #[.pointer (some ⟨cb, 0, none⟩)], .map (some (w.heap.size + 2)), .slice (some ⟨w.heap.size + 3, 0, none⟩) 1 1, .int .i64 1, .int .i64 0, .map (some (w.heap.size + 4)), .slice none 0 0, .int .u64 0, .map (some (w.heap.size + 5)), .int .u64 0, .int .i64 0, .bool false, .int .u64 0, .int .u64 0, .int .u64 0, .int .u64 0, .int .u64 0, .bool false, .bool false, .bool false, .int .u64 0] 64)

set_option maxHeartbeats 2000000 in
set_option maxRecDepth 100000 in
theorem c23 {w : World} {s : ByteArray} {lf al : Int} {cb : Nat} : Calls Try.prog 23 #[.string s, .agg #[.int .i64 lf, .int .i64 al, .func (.func 21) #[] #[.pointer (some ⟨cb, 0, none⟩)]]] w fun e w' => e = .returned (.pointer (some ⟨w.heap.size + 6, 0, none⟩)) ∧ w' = newWorld w s lf al cb := by
  have mk := mk_map
  have ins := ins_map ((w.alloc (.cells #[.int .i64 lf, .int .i64 al, .func (.func 21) #[] #[.pointer (some ⟨cb, 0, none⟩)]] 55)).alloc
    (.cells #[.string s, .bool true, .int .u64 0, .int .u64 0, .bool false, .bool false, .bool false, .bool false, .int .u64 0, .int .u64 0, .int .u64 0, .bool false, .int .u64 0, .bool false, .bool false] 73)) s (.pointer (some ⟨w.heap.size + 1, 0, none⟩))
  have hsz : ((w.alloc (.cells #[.int .i64 lf, .int .i64 al, .func (.func 21) #[] #[.pointer (some ⟨cb, 0, none⟩)]] 55)).alloc
    (.cells #[.string s, .bool true, .int .u64 0, .int .u64 0, .bool false, .bool false, .bool false, .bool false, .int .u64 0, .int .u64 0, .int .u64 0, .bool false, .int .u64 0, .bool false, .bool false] 73)).heap.size = w.heap.size + 1 + 1 := by simp
  rw [hsz] at ins
  clear hsz
  go_enter Try.func23, Try.ntmps23
  go_wp2_with fail
  go_ret
  exact ⟨rfl, rfl⟩
end Go.Proofs.Qxb6002353a
