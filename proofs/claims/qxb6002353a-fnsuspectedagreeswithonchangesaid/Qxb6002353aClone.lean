/-
  SEAT b6002353a: CloneBytes; the bound on the lengths.
-/
import Derived.Test.Qxb6002353aStep
namespace Go.Proofs.Qxb6002353a
open Go.RowKit
set_option linter.unusedVariables false
set_option linter.unusedSimpArgs false

/-- a row of bytes that came in -/
def SrcRow (w0 : World) (a : Option Addr) (n : Nat) : Prop := (a = none ∧ n = 0) ∨ ∃ x, a = some x ∧ (0 < n → x.block < w0.heap.size) ∧ ∀ i, i < n → ∃ z, w0.cell? (x.add i) = some (.int .u8 z) ∧ 0 ≤ z ∧ z < 256
/-- a row of bytes of the law's own -/
def ByteRow (G : Gh) (a : Option Addr) (n : Nat) : Prop := 0 < n → ∃ b arr, a = some ⟨b, 0, none⟩ ∧ G.kd b = kEx (.cells arr 5 (0, 0)) ∧ ∀ (i : Nat), i < n → ∃ z, arr[i]? = some (.int .u8 z) ∧ 0 ≤ z ∧ z < 256
theorem nil22 (a : Option Addr) (n c : Nat) (w : World) : (binOp .eql 22 (.slice a n c) (.slice none 0 0)).run Try.prog w = .ok (.bool a.isNone) w := by
  cases a with
  | none => kernel_rfl
  | some a => kernel_rfl
/-- a ghost of which nothing but plain blocks is told -/
structure Pl (G : Gh) : Prop where
  k : G.k = 0
  t : G.t = 0
  bn : G.bn = fun _ => 1
  rd : G.rd = fun _ => 0
  rs : G.rs = fun _ => []
  qs : G.qs = fun _ _ => False
  kd : ∀ b, (G.kd b).t = 0 ∨ (G.kd b).t = 14 ∨ (G.kd b).t = 15
theorem Pl.put {G : Gh} (h : Pl G) (b : Nat) (κ : Kd) (hκ : κ.t = 14 ∨ κ.t = 15) : Pl (G.put b κ) := by
  refine ⟨h.k, h.t, h.bn, h.rd, h.rs, h.qs, fun i => ?_⟩
  by_cases e : i = b
  · subst e; rw [Gh.put_at]; exact .inr hκ
  · rw [Gh.put_ne _ _ e]; exact h.kd i

def ClPost (G : Gh) (n : Nat) (e : Ending) (w' : World) : Prop := ∃ a c G', e = .returned (.slice a n c) ∧ Le 0 G G' ∧ Typed w' G' ∧ ByteRow G' a n ∧ (Pl G → Pl G')

theorem add_blk (x : Addr) (j : Nat) : (x.add j).block = x.block := by
  unfold Addr.add
  split <;> rfl
theorem below_cell {w G} (T : Typed0 w G) {x : Addr} (hb : x.block < G.w0.heap.size) : w.cell? x = G.w0.cell? x := by
  simp only [World.cell?, T.below.block x.block hb]

set_option maxHeartbeats 4000000 in
set_option maxRecDepth 100000 in
theorem c7 {w G a n c} (T : Typed w G) (hs : SrcRow G.w0 a n) (hn : n ≤ 64) : Calls Try.prog 7 #[.slice a n c] w fun e w' => ClPost G n e w' := by
  have nl := nil22
  rcases hs with ⟨rfl, rfl⟩ | ⟨x, rfl, hxb, hsrc⟩
  · have A := hid T
    clear T
    go_enter Try.func7, Try.ntmps7
    go_wp2_with fail
    go_ret
    exact ⟨_, _, G, rfl, Le.refl G, A.out, (fun h => by omega), id⟩
  · obtain ⟨R, hR, hm⟩ : ∃ R : Array Value, R.size = n ∧ ∀ w, (Instr.makeSlice 22 (.int .i64 (n : Int)) (.int .i64 (n : Int))).run Try.prog w = .ok (.slice (some ⟨w.heap.size, 0, none⟩) n n) (w.alloc (.cells R 5)) := by
      obtain ⟨ii, k1, k2, k3, k4⟩ := info_parts info5
      refine ⟨madeCells (Value.int .u8 0).cells n, size_madeCells _ _, fun w => ?_⟩
      have hr := run_make (P := Try.prog) w 22 5 ii _ Try.underlying22 k1 k2 .i64 .i64 n n (by omega) (by omega) (by rw [k4]; omega) (by omega)
      rw [k3] at hr
      simpa using hr
    have hf := T.T.fr _ (Nat.le_refl _)
    have T1 : Typed (w.alloc (.cells R 5)) (G.put w.heap.size kAny) := ⟨T.T.alloc kAny trivial ⟨by simp, by simp, by simp, by simp, by simp⟩, T.A⟩
    have L1 : Le 0 G (G.put w.heap.size kAny) := Le.put _ (by rw [hf])
    have h15 : ((G.put w.heap.size kAny).kd w.heap.size).t = 15 := by rw [Gh.put_at]
    have h0 : (G.kd w.heap.size).t = 0 := by rw [hf]
    have hb : (G.put w.heap.size kAny).w0.heap.size ≤ w.heap.size := T.T.size
    have hnew : (w.alloc (.cells R 5)).heap[w.heap.size]? = some (.cells R 5 (0, 0)) := (MapKept.heap_alloc w _).1
    have hw0 : (G.put w.heap.size kAny).w0 = G.w0 := rfl
    have hpl : Pl G → Pl (G.put w.heap.size kAny) := fun h => h.put _ _ (.inr rfl)
    generalize G.put w.heap.size kAny = G1 at *
    have AA := hid (And.intro T1 (And.intro L1 (And.intro h15 (And.intro h0 (And.intro hb (And.intro hnew hw0))))))
    have HPL := hid hpl
    have SRC := hid hsrc
    have HX := hid hxb
    have HR := hid hR
    clear T T1 L1 h15 h0 hb hnew hw0 hf hsrc hxb hR hpl
    generalize hr : w.heap.size = r at *
    go_enter Try.func7, Try.ntmps7
    go_wp2_with fail
    clear hr hm
    go_loopg [4] n (fun kk i wr => ∃ (j : Nat) (arr : Array Value), j + kk = n ∧ i = .int .i64 j ∧ Typed wr G1 ∧ wr.heap[r]? = some (.cells arr 5 (0, 0)) ∧ arr.size = n ∧ ∀ i, i < j → ∃ z, arr[i]? = some (.int .u8 z) ∧ 0 ≤ z ∧ z < 256)
    case atStart => exact ⟨0, R, by omega, rfl, AA.out.1, AA.out.2.2.2.2.2.1, HR.out, fun i hi => by omega⟩
    case round =>
      obtain ⟨j, arr, hj, rfl, T2, ho, hsz, hcs⟩ := hrel
      by_cases hlt : j < n
      · have hlt' : (j : Int) < (n : Int) := by omega
        obtain ⟨z, hz, hz0, hz1⟩ := SRC.out j hlt
        have hxb := HX.out (by omega)
        rw [← AA.out.2.2.2.2.2.2] at hz hxb
        have cz : wr.cell? (x.add j) = some (.int .u8 z) := (below_cell T2.T (x := x.add j) (by rw [add_blk]; exact hxb)).trans hz
        obtain ⟨u, hu⟩ : ∃ u, wr.cell? ⟨r, j, none⟩ = some u := ⟨arr[j]'(by omega), (cell_of ho j).trans (by simp)⟩
        have rf := fz_of ho j
        have NX : Hid (Typed (wr.setCell ⟨r, j, none⟩ (.int .u8 z)) G1 ∧ (wr.setCell ⟨r, j, none⟩ (.int .u8 z)).heap[r]? = some (.cells (arr.setIfInBounds j (.int .u8 z)) 5 (0, 0)) ∧ (arr.setIfInBounds j (.int .u8 z)).size = n ∧ ∀ i, i < j + 1 → ∃ z', (arr.setIfInBounds j (.int .u8 z))[i]? = some (.int .u8 z') ∧ 0 ≤ z' ∧ z' < 256) := by
          refine ⟨⟨T2.T.setE (.inr AA.out.2.2.1), T2.A⟩, setCell_at ho, by simp [hsz], fun i hi => ?_⟩
          by_cases e : i = j
          · subst e
            exact ⟨z, by rw [Array.getElem?_setIfInBounds, if_pos rfl, if_pos (by omega)], hz0, hz1⟩
          · rw [Array.getElem?_setIfInBounds, if_neg (fun h => e h.symm)]
            exact hcs i (by omega)
        have J := hid hj
        clear T2 ho hsz hcs hz hxb hj
        go_wp2_with fail
        go_roundg (gk - 1)
        case measure => have := J.out; omega
        case rel => exact ⟨j + 1, _, by have := J.out; omega, rfl, NX.out⟩
      · have hge : (n : Int) ≤ (j : Int) := by omega
        have X := hid (And.intro T2 (And.intro ho (And.intro hsz hcs)))
        have J := hid hj
        clear T2 ho hsz hcs hj
        go_wp2_with fail
        go_ret
        obtain ⟨T2, ho, hsz, hcs⟩ := X.out
        have T3 := T2.T.rekind (b := r) (kEx (.cells arr 5 (0, 0))) (.inr (.inl AA.out.2.2.1)) AA.out.2.2.2.2.1 (fun o h _ => by rw [ho] at h; cases h; rfl) ⟨by simp, by simp, by simp, by simp, by simp⟩
        exact ⟨_, _, G1.put r (kEx (.cells arr 5 (0, 0))), rfl, AA.out.2.1.turn _ AA.out.2.2.2.1, ⟨T3, T2.A⟩, (fun h => ⟨r, arr, rfl, Gh.put_at _ _ _, fun i hi => hcs i (by have := J.out; omega)⟩), fun h => (HPL.out h).put _ _ (.inl rfl)⟩

set_option maxHeartbeats 1000000 in
theorem c6 {v0 v3 v4 : Value} {a1 a2 : Option Addr} {n1 c1 n2 c2 : Nat} (h1 : n1 ≤ maxLen) (h2 : n2 ≤ maxLen) (w : World) : Calls Try.prog 6 #[v0, .slice a1 n1 c1, .slice a2 n2 c2, v3, v4] w fun e w' => ∃ b, e = .returned (.bool b) ∧ w' = w := by
  have h1' : (n1 : Int) ≤ 9223372036854775807 := by unfold maxLen at h1; omega
  have h2' : (n2 : Int) ≤ 9223372036854775807 := by unfold maxLen at h2; omega
  clear h1 h2
  go_enter Try.func6, Try.ntmps6
  go_wp2_with fail
  all_goals
    go_ret
    exact ⟨_, rfl, rfl⟩
end Go.Proofs.Qxb6002353a
