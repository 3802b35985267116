/-
  compact (function 36): the pieces of the walk, behind the slots.
-/
import Derived.Test.Qxb6601687aBoolsB
import Derived.Test.Qxb6601687aCompA
namespace Go.Proofs.Qxb6601687a
open Go.RowKit
set_option linter.unusedVariables false
set_option linter.unusedSimpArgs false

set_option maxRecDepth 100000 in
theorem lit36 (a : Act) (hd : a.defers = []) (hs : a.tmps.size = 171) : a = ⟨#[get a 0, get a 1, get a 2, get a 3, get a 4, get a 5, get a 6, get a 7, get a 8, get a 9, get a 10, get a 11, get a 12, get a 13, get a 14, get a 15, get a 16, get a 17, get a 18, get a 19, get a 20, get a 21, get a 22, get a 23, get a 24, get a 25, get a 26, get a 27, get a 28, get a 29, get a 30, get a 31, get a 32, get a 33, get a 34, get a 35, get a 36, get a 37, get a 38, get a 39, get a 40, get a 41, get a 42, get a 43, get a 44, get a 45, get a 46, get a 47, get a 48, get a 49, get a 50, get a 51, get a 52, get a 53, get a 54, get a 55, get a 56, get a 57, get a 58, get a 59, get a 60, get a 61, get a 62, get a 63, get a 64, get a 65, get a 66, get a 67, get a 68, get a 69, get a 70, get a 71, get a 72, get a 73, get a 74, get a 75, get a 76, get a 77, get a 78, get a 79, get a 80, get a 81, get a 82, get a 83, get a 84, get a 85, get a 86, get a 87, get a 88, get a 89, get a 90, get a 91, get a 92, get a 93, get a 94, get a 95, get a 96, get a 97, get a 98, get a 99, get a 100, get a 101, get a 102, get a 103, get a 104, get a 105, get a 106, get a 107, get a 108, get a 109, get a 110, get a 111, get a 112, get a 113, get a 114, get a 115, get a 116, get a 117, get a 118, get a 119, get a 120, get a 121, get a 122, get a 123, get a 124, get a 125, get a 126, get a 127, get a 128, get a 129, get a 130, get a 131, get a 132, get a 133, get a 134, get a 135, get a 136, get a 137, get a 138, get a 139, get a 140, get a 141, get a 142, get a 143, get a 144, get a 145, get a 146, get a 147, get a 148, get a 149, get a 150, get a 151, get a 152, get a 153, get a 154, get a 155, get a 156, get a 157, get a 158, get a 159, get a 160, get a 161, get a 162, get a 163, get a 164, get a 165, get a 166, get a 167, get a 168, get a 169, get a 170], []⟩ := act_eq a 171 hd hs

/-- a row of bools of the call's own -/
def Dv6 (w : World) (b n : Nat) (g : Nat → Bool) : Prop := ∃ arr, w.heap[b]? = some (.cells arr 4 (0, 0)) ∧ arr.size = n ∧ ∀ i, i < n → arr[i]? = some (.bool (g i))
theorem Dv6.cell {w b n g} (h : Dv6 w b n g) (i : Nat) (hi : i < n) : w.cell? ⟨b, i, none⟩ = some (.bool (g i)) := by
  obtain ⟨arr, h1, h2, h3⟩ := h
  simp [World.cell?, h1, h3 i hi]
theorem Dv6.fz {w b n g} (h : Dv6 w b n g) (i : Nat) : w.frozen? ⟨b, i, none⟩ = false := by
  obtain ⟨arr, h1, h2, h3⟩ := h
  simp [World.frozen?, h1]
theorem Dv6.set {w b n g} (h : Dv6 w b n g) (j : Nat) (hj : j < n) (v : Bool) : Dv6 (w.setCell ⟨b, j, none⟩ (.bool v)) b n (Cm.put g j v) := by
  obtain ⟨arr, h1, h2, h3⟩ := h
  refine ⟨arr.setIfInBounds j (.bool v), heap_setCell_at _ _ _ _ _ _ _ h1, by simpa using h2, fun t ht => ?_⟩
  by_cases htj : t = j
  · subst htj; rw [Cm.put_at, Array.getElem?_setIfInBounds_self_of_lt (by omega)]
  · rw [Cm.put_ne htj, Array.getElem?_setIfInBounds_ne (by omega)]; exact h3 t ht

structure X36 where
  (la ca : Option Addr)
  (lb cb sb sc : Nat)
  (E : Cm.Env)

structure F36 (X : X36) (a : Act) : Prop where
  d : a.defers = []
  s : a.tmps.size = 171
  g0 : get a 0 = .slice X.la X.E.n X.E.n
  g1 : get a 1 = .slice X.ca X.E.n X.E.n
  g6 : get a 6 = .slice (some ⟨X.sb, 0, none⟩) (X.E.F + 1) X.sc
  g10 : get a 10 = .int .i64 (X.E.n : Int)

/-- the memory that stands fast: the lines, the slots -/
structure B36 (X : X36) (w0 : World) : Prop where
  la : 0 < X.E.n → X.la = some ⟨X.lb, 0, none⟩
  ca : 0 < X.E.n → X.ca = some ⟨X.cb, 0, none⟩
  n : X.E.n ≤ 4096
  F : X.E.F ≤ 4096
  lines : ∀ i, i < X.E.n → w0.cell? ⟨X.lb, i, none⟩ = some (.int .i32 (X.E.l i))
  ll : 0 < X.E.n → X.lb < w0.heap.size
  lc : 0 < X.E.n → X.lb ≠ X.cb
  slots : ∀ k, k ≤ X.E.F → w0.cell? ⟨X.sb, k, none⟩ = some (.bool (X.E.S k))
  sl : X.sb < w0.heap.size
  sc : 0 < X.E.n → X.sb ≠ X.cb

/-- the memory: the marks c; all else as in w0 -/
structure M36 (X : X36) (w0 w : World) (c : Nat → Bool) : Prop where
  b : B36 X w0
  dv : 0 < X.E.n → Dv6 w X.cb X.E.n c
  os : w.os = w0.os
  tape : w.tape = w0.tape
  output : w.output = w0.output
  size : w0.heap.size ≤ w.heap.size
  block : ∀ k, k < w0.heap.size → k ≠ X.cb → w.heap[k]? = w0.heap[k]?

theorem M36.drewN {X w0 w c} (h : M36 X w0 w c) (q : Nat) : M36 X w0 (w.drewN q) c := ⟨h.b, h.dv, h.os, h.tape, h.output, h.size, h.block⟩
theorem M36.line {X w0 w c} (h : M36 X w0 w c) (i : Nat) (hi : i < X.E.n) : w.cell? ⟨X.lb, i, none⟩ = some (.int .i32 (X.E.l i)) := by
  rw [World.cell?_of_block (w := w0) (a := ⟨X.lb, i, none⟩) (h.block X.lb (h.b.ll (by omega)) (h.b.lc (by omega)))]; exact h.b.lines i hi
theorem M36.slot {X w0 w c} (h : M36 X w0 w c) (h0 : 0 < X.E.n) (k : Nat) (hk : k ≤ X.E.F) : w.cell? ⟨X.sb, k, none⟩ = some (.bool (X.E.S k)) := by
  rw [World.cell?_of_block (w := w0) (a := ⟨X.sb, k, none⟩) (h.block X.sb h.b.sl (h.b.sc h0))]; exact h.b.slots k hk
theorem M36.set {X w0 w c} (h : M36 X w0 w c) (j : Nat) (hj : j < X.E.n) (v : Bool) : M36 X w0 (w.setCell ⟨X.cb, j, none⟩ (.bool v)) (Cm.put c j v) :=
  ⟨h.b, fun h0 => (h.dv h0).set j hj v, (((Below.refl 0 w).setCell (p := ⟨X.cb, j, none⟩) (Nat.zero_le _) (.bool v)).os).trans h.os, (((Below.refl 0 w).setCell (p := ⟨X.cb, j, none⟩) (Nat.zero_le _) (.bool v)).tape).trans h.tape, (((Below.refl 0 w).setCell (p := ⟨X.cb, j, none⟩) (Nat.zero_le _) (.bool v)).output).trans h.output, by rw [World.size_setCell]; exact h.size, fun k h1 h2 => by rw [Below.heap_setCell _ _ _ _ (by exact h2)]; exact h.block k h1 h2⟩

set_option maxHeartbeats 1000000 in
set_option maxRecDepth 100000 in
theorem p14_in {X : X36} {a : Act} {w0 w : World} {c : Nat → Bool} {s : Nat} {sl : Nat}  {Q : Exit → Act → World → Prop} (hF : F36 X a) (h11 : get a 11 = .int .i64 (sl : Int)) (h12 : get a 12 = .int .i64 (s : Int)) (mem : M36 X w0 w c) (h : s < X.E.n)
    (hQ : Hid (∀ a', F36 X a' → get a' 11 = .int .i64 (sl : Int) → get a' 12 = .int .i64 (s : Int) → Q .normal a' w)) :
    Code.wp Try.prog (sub2 [true, true, true, true, true, true, true, false, false, false] (bodyOf Try.f36)) Q a w := by
  conv => arg 2; whnf
  obtain ⟨hd, hs, g0, g1, g6, g10⟩ := hF
  have zn := mem.b.n
  have zF := mem.b.F
  have MEM : Hid (M36 X w0 w c) := mem
  have hh : (s : Int) < X.E.n := by omega
  clear mem
  rw [lit36 a hd hs]
  generalize get a = g at *
  simp only [g0, g1, g6, g10, h11, h12]
  clear hd hs g0 g1 g6 g10 h11 h12
  go_wp2
  exact hQ.out _ ⟨rfl, rfl, rfl, rfl, rfl, rfl⟩ rfl rfl
set_option maxHeartbeats 1000000 in
set_option maxRecDepth 100000 in
theorem p14_out {X : X36} {a : Act} {w0 w : World} {c : Nat → Bool} {s : Nat} {sl : Nat}  {Q : Exit → Act → World → Prop} (hF : F36 X a) (h11 : get a 11 = .int .i64 (sl : Int)) (h12 : get a 12 = .int .i64 (s : Int)) (mem : M36 X w0 w c) (h : X.E.n ≤ s)
    (hQ : Hid (∀ a', F36 X a' → get a' 11 = .int .i64 (sl : Int) → get a' 12 = .int .i64 (s : Int) → Q (.exit 2) a' w)) :
    Code.wp Try.prog (sub2 [true, true, true, true, true, true, true, false, false, false] (bodyOf Try.f36)) Q a w := by
  conv => arg 2; whnf
  obtain ⟨hd, hs, g0, g1, g6, g10⟩ := hF
  have zn := mem.b.n
  have zF := mem.b.F
  have MEM : Hid (M36 X w0 w c) := mem
  have hh : (X.E.n : Int) ≤ s := by omega
  clear mem
  rw [lit36 a hd hs]
  generalize get a = g at *
  simp only [g0, g1, g6, g10, h11, h12]
  clear hd hs g0 g1 g6 g10 h11 h12
  go_wp2
  exact hQ.out _ ⟨rfl, rfl, rfl, rfl, rfl, rfl⟩ rfl rfl
set_option maxHeartbeats 1000000 in
set_option maxRecDepth 100000 in
theorem p15_off {X : X36} {a : Act} {w0 w : World} {c : Nat → Bool} {s : Nat} {sl : Nat}  {Q : Exit → Act → World → Prop} (hF : F36 X a) (h11 : get a 11 = .int .i64 (sl : Int)) (h12 : get a 12 = .int .i64 (s : Int)) (mem : M36 X w0 w c) (h : s < X.E.n) (hc : c s = false) (hsl : sl ≤ s)
    (hQ : Hid (∀ a', F36 X a' → get a' 11 = .int .i64 ((sl : Int) + 1) → get a' 12 = .int .i64 ((s : Int) + 1) → Q (.exit 3) a' w)) :
    Code.wp Try.prog (sub2 [true, true, true, true, true, true, true, false, false, true, false, false] (bodyOf Try.f36)) Q a w := by
  conv => arg 2; whnf
  obtain ⟨hd, hs, g0, g1, g6, g10⟩ := hF
  have zn := mem.b.n
  have zF := mem.b.F
  have MEM : Hid (M36 X w0 w c) := mem
  have el := mem.b.la (by omega)
  have ec := mem.b.ca (by omega)
  rw [el] at g0
  rw [ec] at g1
  have EL : Hid (X.la = some ⟨X.lb, 0, none⟩) := el
  have EC : Hid (X.ca = some ⟨X.cb, 0, none⟩) := ec
  clear el ec
  have cv := (mem.dv (by omega)).cell (s) (by omega)
  rw [hc] at cv
  clear mem
  rw [lit36 a hd hs]
  generalize get a = g at *
  simp only [g0, g1, g6, g10, h11, h12]
  clear hd hs g0 g1 g6 g10 h11 h12
  go_wp2
  exact hQ.out _ ⟨rfl, rfl, by rw [EL.out]; rfl, by rw [EC.out]; rfl, rfl, rfl⟩ rfl rfl
set_option maxHeartbeats 1000000 in
set_option maxRecDepth 100000 in
theorem p15_on {X : X36} {a : Act} {w0 w : World} {c : Nat → Bool} {s : Nat} {sl : Nat}  {Q : Exit → Act → World → Prop} (hF : F36 X a) (h11 : get a 11 = .int .i64 (sl : Int)) (h12 : get a 12 = .int .i64 (s : Int)) (mem : M36 X w0 w c) (h : s < X.E.n) (hc : c s = true)
    (hQ : Hid (∀ a', F36 X a' → get a' 11 = .int .i64 (sl : Int) → get a' 12 = .int .i64 (s : Int) → Q .normal a' w)) :
    Code.wp Try.prog (sub2 [true, true, true, true, true, true, true, false, false, true, false, false] (bodyOf Try.f36)) Q a w := by
  conv => arg 2; whnf
  obtain ⟨hd, hs, g0, g1, g6, g10⟩ := hF
  have zn := mem.b.n
  have zF := mem.b.F
  have MEM : Hid (M36 X w0 w c) := mem
  have el := mem.b.la (by omega)
  have ec := mem.b.ca (by omega)
  rw [el] at g0
  rw [ec] at g1
  have EL : Hid (X.la = some ⟨X.lb, 0, none⟩) := el
  have EC : Hid (X.ca = some ⟨X.cb, 0, none⟩) := ec
  clear el ec
  have cv := (mem.dv (by omega)).cell (s) (by omega)
  rw [hc] at cv
  clear mem
  rw [lit36 a hd hs]
  generalize get a = g at *
  simp only [g0, g1, g6, g10, h11, h12]
  clear hd hs g0 g1 g6 g10 h11 h12
  go_wp2
  exact hQ.out _ ⟨rfl, rfl, by rw [EL.out]; rfl, by rw [EC.out]; rfl, rfl, rfl⟩ rfl rfl
set_option maxHeartbeats 1000000 in
set_option maxRecDepth 100000 in
theorem p18 {X : X36} {a : Act} {w0 w : World} {c : Nat → Bool} {s : Nat} {sl : Nat}  {Q : Exit → Act → World → Prop} (hF : F36 X a) (h11 : get a 11 = .int .i64 (sl : Int)) (h12 : get a 12 = .int .i64 (s : Int)) (mem : M36 X w0 w c) 
    (hQ : Hid (∀ a', F36 X a' → get a' 11 = .int .i64 (sl : Int) → get a' 12 = .int .i64 (s : Int) → get a' 13 = .int .i64 (s : Int) → Q .normal a' w)) :
    Code.wp Try.prog (sub2 [true, true, true, true, true, true, true, false, false, true, false, true, false] (bodyOf Try.f36)) Q a w := by
  conv => arg 2; whnf
  obtain ⟨hd, hs, g0, g1, g6, g10⟩ := hF
  have zn := mem.b.n
  have zF := mem.b.F
  have MEM : Hid (M36 X w0 w c) := mem
  clear mem
  rw [lit36 a hd hs]
  generalize get a = g at *
  simp only [g0, g1, g6, g10, h11, h12]
  clear hd hs g0 g1 g6 g10 h11 h12
  go_wp2
  exact hQ.out _ ⟨rfl, rfl, rfl, rfl, rfl, rfl⟩ rfl rfl rfl
set_option maxHeartbeats 1000000 in
set_option maxRecDepth 100000 in
theorem p19_in {X : X36} {a : Act} {w0 w : World} {c : Nat → Bool} {s : Nat} {e : Nat} {sl : Nat}  {Q : Exit → Act → World → Prop} (hF : F36 X a) (h11 : get a 11 = .int .i64 (sl : Int)) (h12 : get a 12 = .int .i64 (s : Int)) (h13 : get a 13 = .int .i64 (e : Int)) (mem : M36 X w0 w c) (h : e < X.E.n) (hc : c e = true)
    (hQ : Hid (∀ a', F36 X a' → get a' 11 = .int .i64 (sl : Int) → get a' 12 = .int .i64 (s : Int) → get a' 13 = .int .i64 ((e : Int) + 1) → Q .normal a' w)) :
    Code.wp Try.prog (sub2 [true, true, true, true, true, true, true, false, false, true, false, true, true, false, false, false] (bodyOf Try.f36)) Q a w := by
  conv => arg 2; whnf
  obtain ⟨hd, hs, g0, g1, g6, g10⟩ := hF
  have zn := mem.b.n
  have zF := mem.b.F
  have MEM : Hid (M36 X w0 w c) := mem
  have el := mem.b.la (by omega)
  have ec := mem.b.ca (by omega)
  rw [el] at g0
  rw [ec] at g1
  have EL : Hid (X.la = some ⟨X.lb, 0, none⟩) := el
  have EC : Hid (X.ca = some ⟨X.cb, 0, none⟩) := ec
  clear el ec
  have cv := (mem.dv (by omega)).cell (e) (by omega)
  rw [hc] at cv
  have hh : (e : Int) < X.E.n := by omega
  clear mem
  rw [lit36 a hd hs]
  generalize get a = g at *
  simp only [g0, g1, g6, g10, h11, h12, h13]
  clear hd hs g0 g1 g6 g10 h11 h12 h13
  go_wp2
  exact hQ.out _ ⟨rfl, rfl, by rw [EL.out]; rfl, by rw [EC.out]; rfl, rfl, rfl⟩ rfl rfl rfl
set_option maxHeartbeats 1000000 in
set_option maxRecDepth 100000 in
theorem p19_end {X : X36} {a : Act} {w0 w : World} {c : Nat → Bool} {s : Nat} {e : Nat} {sl : Nat}  {Q : Exit → Act → World → Prop} (hF : F36 X a) (h11 : get a 11 = .int .i64 (sl : Int)) (h12 : get a 12 = .int .i64 (s : Int)) (h13 : get a 13 = .int .i64 (e : Int)) (mem : M36 X w0 w c) (h : X.E.n ≤ e)
    (hQ : Hid (∀ a', F36 X a' → get a' 11 = .int .i64 (sl : Int) → get a' 12 = .int .i64 (s : Int) → get a' 13 = .int .i64 (e : Int) → Q (.exit 4) a' w)) :
    Code.wp Try.prog (sub2 [true, true, true, true, true, true, true, false, false, true, false, true, true, false, false, false] (bodyOf Try.f36)) Q a w := by
  conv => arg 2; whnf
  obtain ⟨hd, hs, g0, g1, g6, g10⟩ := hF
  have zn := mem.b.n
  have zF := mem.b.F
  have MEM : Hid (M36 X w0 w c) := mem
  have hh : (X.E.n : Int) ≤ e := by omega
  clear mem
  rw [lit36 a hd hs]
  generalize get a = g at *
  simp only [g0, g1, g6, g10, h11, h12, h13]
  clear hd hs g0 g1 g6 g10 h11 h12 h13
  go_wp2
  exact hQ.out _ ⟨rfl, rfl, rfl, rfl, rfl, rfl⟩ rfl rfl rfl
set_option maxHeartbeats 1000000 in
set_option maxRecDepth 100000 in
theorem p19_out {X : X36} {a : Act} {w0 w : World} {c : Nat → Bool} {s : Nat} {e : Nat} {sl : Nat}  {Q : Exit → Act → World → Prop} (hF : F36 X a) (h11 : get a 11 = .int .i64 (sl : Int)) (h12 : get a 12 = .int .i64 (s : Int)) (h13 : get a 13 = .int .i64 (e : Int)) (mem : M36 X w0 w c) (h : e < X.E.n) (hc : c e = false)
    (hQ : Hid (∀ a', F36 X a' → get a' 11 = .int .i64 (sl : Int) → get a' 12 = .int .i64 (s : Int) → get a' 13 = .int .i64 (e : Int) → Q (.exit 4) a' w)) :
    Code.wp Try.prog (sub2 [true, true, true, true, true, true, true, false, false, true, false, true, true, false, false, false] (bodyOf Try.f36)) Q a w := by
  conv => arg 2; whnf
  obtain ⟨hd, hs, g0, g1, g6, g10⟩ := hF
  have zn := mem.b.n
  have zF := mem.b.F
  have MEM : Hid (M36 X w0 w c) := mem
  have el := mem.b.la (by omega)
  have ec := mem.b.ca (by omega)
  rw [el] at g0
  rw [ec] at g1
  have EL : Hid (X.la = some ⟨X.lb, 0, none⟩) := el
  have EC : Hid (X.ca = some ⟨X.cb, 0, none⟩) := ec
  clear el ec
  have cv := (mem.dv (by omega)).cell (e) (by omega)
  rw [hc] at cv
  have hh : (e : Int) < X.E.n := by omega
  clear mem
  rw [lit36 a hd hs]
  generalize get a = g at *
  simp only [g0, g1, g6, g10, h11, h12, h13]
  clear hd hs g0 g1 g6 g10 h11 h12 h13
  go_wp2
  exact hQ.out _ ⟨rfl, rfl, by rw [EL.out]; rfl, by rw [EC.out]; rfl, rfl, rfl⟩ rfl rfl rfl
set_option maxHeartbeats 1000000 in
set_option maxRecDepth 100000 in
theorem p21 {X : X36} {a : Act} {w0 w : World} {c : Nat → Bool} {s : Nat} {e : Nat} {sl : Nat}  {Q : Exit → Act → World → Prop} (hF : F36 X a) (h11 : get a 11 = .int .i64 (sl : Int)) (h12 : get a 12 = .int .i64 (s : Int)) (h13 : get a 13 = .int .i64 (e : Int)) (mem : M36 X w0 w c) 
    (hQ : Hid (∀ a', F36 X a' → get a' 11 = .int .i64 (sl : Int) → get a' 12 = .int .i64 (s : Int) → get a' 13 = .int .i64 (e : Int) → get a' 14 = .int .i64 (-1) → Q .normal a' w)) :
    Code.wp Try.prog (sub2 [true, true, true, true, true, true, true, false, false, true, false, true, true, true, false] (bodyOf Try.f36)) Q a w := by
  conv => arg 2; whnf
  obtain ⟨hd, hs, g0, g1, g6, g10⟩ := hF
  have zn := mem.b.n
  have zF := mem.b.F
  have MEM : Hid (M36 X w0 w c) := mem
  clear mem
  rw [lit36 a hd hs]
  generalize get a = g at *
  simp only [g0, g1, g6, g10, h11, h12, h13]
  clear hd hs g0 g1 g6 g10 h11 h12 h13
  go_wp2
  exact hQ.out _ ⟨rfl, rfl, rfl, rfl, rfl, rfl⟩ rfl rfl rfl rfl
set_option maxHeartbeats 1000000 in
set_option maxRecDepth 100000 in
theorem p22 {X : X36} {a : Act} {w0 w : World} {c : Nat → Bool} {s : Nat} {e : Nat} {sl : Nat} {al : Int}  {Q : Exit → Act → World → Prop} (hF : F36 X a) (h11 : get a 11 = .int .i64 (sl : Int)) (h12 : get a 12 = .int .i64 (s : Int)) (h13 : get a 13 = .int .i64 (e : Int)) (h14 : get a 14 = .int .i64 al) (mem : M36 X w0 w c) (h : s < e) (he : e ≤ X.E.n)
    (hQ : Hid (∀ a', F36 X a' → get a' 11 = .int .i64 (sl : Int) → get a' 12 = .int .i64 (s : Int) → get a' 13 = .int .i64 (e : Int) → get a' 14 = .int .i64 al → get a' 15 = .int .i64 ((e : Int) - s) → Q .normal a' w)) :
    Code.wp Try.prog (sub2 [true, true, true, true, true, true, true, false, false, true, false, true, true, true, true, false, false, false, false, false] (bodyOf Try.f36)) Q a w := by
  conv => arg 2; whnf
  obtain ⟨hd, hs, g0, g1, g6, g10⟩ := hF
  have zn := mem.b.n
  have zF := mem.b.F
  have MEM : Hid (M36 X w0 w c) := mem
  clear mem
  rw [lit36 a hd hs]
  generalize get a = g at *
  simp only [g0, g1, g6, g10, h11, h12, h13, h14]
  clear hd hs g0 g1 g6 g10 h11 h12 h13 h14
  go_wp2
  exact hQ.out _ ⟨rfl, rfl, rfl, rfl, rfl, rfl⟩ rfl rfl rfl rfl rfl
set_option maxHeartbeats 1000000 in
set_option maxRecDepth 100000 in
theorem p23_in {X : X36} {a : Act} {w0 w : World} {c : Nat → Bool} {s : Nat} {e : Nat} {sl : Nat} {al : Int} {sz : Int}  {Q : Exit → Act → World → Prop} (hF : F36 X a) (h11 : get a 11 = .int .i64 (sl : Int)) (h12 : get a 12 = .int .i64 (s : Int)) (h13 : get a 13 = .int .i64 (e : Int)) (h14 : get a 14 = .int .i64 al) (h15 : get a 15 = .int .i64 sz) (mem : M36 X w0 w c) (h0 : 0 < s) (h : s < e) (he : e ≤ X.E.n) (heq : X.E.l (s - 1) = X.E.l (e - 1))
    (hQ : Hid (∀ a' w', F36 X a' → get a' 11 = .int .i64 (sl : Int) → get a' 12 = .int .i64 (s : Int) → get a' 13 = .int .i64 (e : Int) → get a' 14 = .int .i64 al → get a' 15 = .int .i64 sz → M36 X w0 w' c → Q .normal a' w')) :
    Code.wp Try.prog (sub2 [true, true, true, true, true, true, true, false, false, true, false, true, true, true, true, false, false, false, false, true, false, false, false, false] (bodyOf Try.f36)) Q a w := by
  conv => arg 2; whnf
  obtain ⟨hd, hs, g0, g1, g6, g10⟩ := hF
  have zn := mem.b.n
  have zF := mem.b.F
  have MEM : Hid (M36 X w0 w c) := mem
  have el := mem.b.la (by omega)
  have ec := mem.b.ca (by omega)
  rw [el] at g0
  rw [ec] at g1
  have EL : Hid (X.la = some ⟨X.lb, 0, none⟩) := el
  have EC : Hid (X.ca = some ⟨X.cb, 0, none⟩) := ec
  clear el ec
  have l1 := mem.line (s - 1) (by omega)
  have l2 := mem.line (e - 1) (by omega)
  rw [heq] at l1
  have hh : (0 : Int) < s := by omega
  generalize X.E.l (e - 1) = lv at *
  clear mem
  rw [lit36 a hd hs]
  generalize get a = g at *
  simp only [g0, g1, g6, g10, h11, h12, h13, h14, h15]
  clear hd hs g0 g1 g6 g10 h11 h12 h13 h14 h15
  go_wp2
  go_quiet (fail)
  go_wp2
  exact hQ.out _ _ ⟨rfl, rfl, by rw [EL.out]; rfl, by rw [EC.out]; rfl, rfl, rfl⟩ rfl rfl rfl rfl rfl (MEM.out.drewN _)
set_option maxHeartbeats 1000000 in
set_option maxRecDepth 100000 in
theorem p23_out {X : X36} {a : Act} {w0 w : World} {c : Nat → Bool} {s : Nat} {e : Nat} {sl : Nat} {al : Int} {sz : Int}  {Q : Exit → Act → World → Prop} (hF : F36 X a) (h11 : get a 11 = .int .i64 (sl : Int)) (h12 : get a 12 = .int .i64 (s : Int)) (h13 : get a 13 = .int .i64 (e : Int)) (h14 : get a 14 = .int .i64 al) (h15 : get a 15 = .int .i64 sz) (mem : M36 X w0 w c) (h0 : 0 < s) (h : s < e) (he : e ≤ X.E.n) (heq : X.E.l (s - 1) ≠ X.E.l (e - 1))
    (hQ : Hid (∀ a' w', F36 X a' → get a' 11 = .int .i64 (sl : Int) → get a' 12 = .int .i64 (s : Int) → get a' 13 = .int .i64 (e : Int) → get a' 14 = .int .i64 al → get a' 15 = .int .i64 sz → M36 X w0 w' c → Q (.exit 8) a' w')) :
    Code.wp Try.prog (sub2 [true, true, true, true, true, true, true, false, false, true, false, true, true, true, true, false, false, false, false, true, false, false, false, false] (bodyOf Try.f36)) Q a w := by
  conv => arg 2; whnf
  obtain ⟨hd, hs, g0, g1, g6, g10⟩ := hF
  have zn := mem.b.n
  have zF := mem.b.F
  have MEM : Hid (M36 X w0 w c) := mem
  have el := mem.b.la (by omega)
  have ec := mem.b.ca (by omega)
  rw [el] at g0
  rw [ec] at g1
  have EL : Hid (X.la = some ⟨X.lb, 0, none⟩) := el
  have EC : Hid (X.ca = some ⟨X.cb, 0, none⟩) := ec
  clear el ec
  have l1 := mem.line (s - 1) (by omega)
  have l2 := mem.line (e - 1) (by omega)
  have hh : (0 : Int) < s := by omega
  have hne : (X.E.l (s - 1) == X.E.l (e - 1)) = false := by simpa using heq
  clear heq
  generalize X.E.l (e - 1) = lv at *
  generalize X.E.l (s - 1) = lu at *
  clear mem
  rw [lit36 a hd hs]
  generalize get a = g at *
  simp only [g0, g1, g6, g10, h11, h12, h13, h14, h15]
  clear hd hs g0 g1 g6 g10 h11 h12 h13 h14 h15
  go_wp2
  go_quiet (fail)
  go_wp2
  exact hQ.out _ _ ⟨rfl, rfl, by rw [EL.out]; rfl, by rw [EC.out]; rfl, rfl, rfl⟩ rfl rfl rfl rfl rfl (MEM.out.drewN _)
set_option maxHeartbeats 1000000 in
set_option maxRecDepth 100000 in
theorem p23_end {X : X36} {a : Act} {w0 w : World} {c : Nat → Bool} {s : Nat} {e : Nat} {sl : Nat} {al : Int} {sz : Int}  {Q : Exit → Act → World → Prop} (hF : F36 X a) (h11 : get a 11 = .int .i64 (sl : Int)) (h12 : get a 12 = .int .i64 (s : Int)) (h13 : get a 13 = .int .i64 (e : Int)) (h14 : get a 14 = .int .i64 al) (h15 : get a 15 = .int .i64 sz) (mem : M36 X w0 w c) (h0 : s = 0)
    (hQ : Hid (∀ a' w', F36 X a' → get a' 11 = .int .i64 (sl : Int) → get a' 12 = .int .i64 (s : Int) → get a' 13 = .int .i64 (e : Int) → get a' 14 = .int .i64 al → get a' 15 = .int .i64 sz → M36 X w0 w' c → Q (.exit 8) a' w')) :
    Code.wp Try.prog (sub2 [true, true, true, true, true, true, true, false, false, true, false, true, true, true, true, false, false, false, false, true, false, false, false, false] (bodyOf Try.f36)) Q a w := by
  conv => arg 2; whnf
  obtain ⟨hd, hs, g0, g1, g6, g10⟩ := hF
  have zn := mem.b.n
  have zF := mem.b.F
  have MEM : Hid (M36 X w0 w c) := mem
  subst h0
  clear mem
  rw [lit36 a hd hs]
  generalize get a = g at *
  simp only [g0, g1, g6, g10, h11, h12, h13, h14, h15]
  clear hd hs g0 g1 g6 g10 h11 h12 h13 h14 h15
  go_wp2
  go_quiet (fail)
  go_wp2
  exact hQ.out _ _ ⟨rfl, rfl, rfl, rfl, rfl, rfl⟩ rfl rfl rfl rfl rfl (MEM.out.drewN _)
set_option maxHeartbeats 1000000 in
set_option maxRecDepth 100000 in
theorem p24 {X : X36} {a : Act} {w0 w : World} {c : Nat → Bool} {s : Nat} {e : Nat} {sl : Nat} {al : Int} {sz : Int}  {Q : Exit → Act → World → Prop} (hF : F36 X a) (h11 : get a 11 = .int .i64 (sl : Int)) (h12 : get a 12 = .int .i64 (s : Int)) (h13 : get a 13 = .int .i64 (e : Int)) (h14 : get a 14 = .int .i64 al) (h15 : get a 15 = .int .i64 sz) (mem : M36 X w0 w c) (h0 : 0 < s) (h : s < e) (he : e ≤ X.E.n) (hl : 0 < sl) (hl2 : sl ≤ 4096)
    (hQ : Hid (∀ a', F36 X a' → get a' 11 = .int .i64 ((sl - 1 : Nat) : Int) → get a' 12 = .int .i64 ((s - 1 : Nat) : Int) → get a' 13 = .int .i64 ((e - 1 : Nat) : Int) → get a' 14 = .int .i64 al → get a' 15 = .int .i64 sz → Q .normal a' w)) :
    Code.wp Try.prog (sub2 [true, true, true, true, true, true, true, false, false, true, false, true, true, true, true, false, false, false, false, true, false, false, false, true, false, false] (bodyOf Try.f36)) Q a w := by
  conv => arg 2; whnf
  obtain ⟨hd, hs, g0, g1, g6, g10⟩ := hF
  have zn := mem.b.n
  have zF := mem.b.F
  have MEM : Hid (M36 X w0 w c) := mem
  clear mem
  rw [lit36 a hd hs]
  generalize get a = g at *
  simp only [g0, g1, g6, g10, h11, h12, h13, h14, h15]
  clear hd hs g0 g1 g6 g10 h11 h12 h13 h14 h15
  go_wp2
  exact hQ.out _ ⟨rfl, rfl, rfl, rfl, rfl, rfl⟩ (congrArg (Value.int .i64) (by omega)) (congrArg (Value.int .i64) (by omega)) (congrArg (Value.int .i64) (by omega)) rfl rfl
set_option maxHeartbeats 1000000 in
set_option maxRecDepth 100000 in
theorem p25 {X : X36} {a : Act} {w0 w : World} {c : Nat → Bool} {s : Nat} {e : Nat} {sl : Nat} {al : Int} {sz : Int}  {Q : Exit → Act → World → Prop} (hF : F36 X a) (h11 : get a 11 = .int .i64 (sl : Int)) (h12 : get a 12 = .int .i64 (s : Int)) (h13 : get a 13 = .int .i64 (e : Int)) (h14 : get a 14 = .int .i64 al) (h15 : get a 15 = .int .i64 sz) (mem : M36 X w0 w c) (h : s < e) (he : e < X.E.n)
    (hQ : Hid (∀ a' w', F36 X a' → get a' 11 = .int .i64 (sl : Int) → get a' 12 = .int .i64 (s : Int) → get a' 13 = .int .i64 (e : Int) → get a' 14 = .int .i64 al → get a' 15 = .int .i64 sz → M36 X w0 w' (Cm.put (Cm.put c s true) e false) → Q .normal a' w')) :
    Code.wp Try.prog (sub2 [true, true, true, true, true, true, true, false, false, true, false, true, true, true, true, false, false, false, false, true, false, false, false, true, false, true, false] (bodyOf Try.f36)) Q a w := by
  conv => arg 2; whnf
  obtain ⟨hd, hs, g0, g1, g6, g10⟩ := hF
  have zn := mem.b.n
  have zF := mem.b.F
  have MEM : Hid (M36 X w0 w c) := mem
  have el := mem.b.la (by omega)
  have ec := mem.b.ca (by omega)
  rw [el] at g0
  rw [ec] at g1
  have EL : Hid (X.la = some ⟨X.lb, 0, none⟩) := el
  have EC : Hid (X.ca = some ⟨X.cb, 0, none⟩) := ec
  clear el ec
  have c1 := (mem.dv (by omega)).cell s (by omega)
  have c2 := (mem.dv (by omega)).cell e (by omega)
  have f1 := (mem.dv (by omega)).fz s
  have f2 := (mem.dv (by omega)).fz e
  clear mem
  rw [lit36 a hd hs]
  generalize get a = g at *
  simp only [g0, g1, g6, g10, h11, h12, h13, h14, h15]
  clear hd hs g0 g1 g6 g10 h11 h12 h13 h14 h15
  go_wp2
  exact hQ.out _ _ ⟨rfl, rfl, by rw [EL.out]; rfl, by rw [EC.out]; rfl, rfl, rfl⟩ rfl rfl rfl rfl rfl ((MEM.out.set s (by omega) true).set e (by omega) false)
set_option maxHeartbeats 1000000 in
set_option maxRecDepth 100000 in
theorem p26_in {X : X36} {a : Act} {w0 w : World} {c : Nat → Bool} {s : Nat} {e : Nat} {sl : Nat} {al : Int} {sz : Int}  {Q : Exit → Act → World → Prop} (hF : F36 X a) (h11 : get a 11 = .int .i64 (sl : Int)) (h12 : get a 12 = .int .i64 (s : Int)) (h13 : get a 13 = .int .i64 (e : Int)) (h14 : get a 14 = .int .i64 al) (h15 : get a 15 = .int .i64 sz) (mem : M36 X w0 w c) (h0 : 0 < s) (h : s < X.E.n) (hc : c (s - 1) = true)
    (hQ : Hid (∀ a', F36 X a' → get a' 11 = .int .i64 (sl : Int) → get a' 12 = .int .i64 ((s - 1 : Nat) : Int) → get a' 13 = .int .i64 (e : Int) → get a' 14 = .int .i64 al → get a' 15 = .int .i64 sz → Q .normal a' w)) :
    Code.wp Try.prog (sub2 [true, true, true, true, true, true, true, false, false, true, false, true, true, true, true, false, false, false, false, true, false, false, false, true, false, true, true, false, false] (bodyOf Try.f36)) Q a w := by
  conv => arg 2; whnf
  obtain ⟨hd, hs, g0, g1, g6, g10⟩ := hF
  have zn := mem.b.n
  have zF := mem.b.F
  have MEM : Hid (M36 X w0 w c) := mem
  have el := mem.b.la (by omega)
  have ec := mem.b.ca (by omega)
  rw [el] at g0
  rw [ec] at g1
  have EL : Hid (X.la = some ⟨X.lb, 0, none⟩) := el
  have EC : Hid (X.ca = some ⟨X.cb, 0, none⟩) := ec
  clear el ec
  have cv := (mem.dv (by omega)).cell (s - 1) (by omega)
  rw [hc] at cv
  have hh : (0 : Int) < s := by omega
  clear mem
  rw [lit36 a hd hs]
  generalize get a = g at *
  simp only [g0, g1, g6, g10, h11, h12, h13, h14, h15]
  clear hd hs g0 g1 g6 g10 h11 h12 h13 h14 h15
  go_wp2
  exact hQ.out _ ⟨rfl, rfl, by rw [EL.out]; rfl, by rw [EC.out]; rfl, rfl, rfl⟩ rfl (congrArg (Value.int .i64) (by omega)) rfl rfl rfl
set_option maxHeartbeats 1000000 in
set_option maxRecDepth 100000 in
theorem p26_out {X : X36} {a : Act} {w0 w : World} {c : Nat → Bool} {s : Nat} {e : Nat} {sl : Nat} {al : Int} {sz : Int}  {Q : Exit → Act → World → Prop} (hF : F36 X a) (h11 : get a 11 = .int .i64 (sl : Int)) (h12 : get a 12 = .int .i64 (s : Int)) (h13 : get a 13 = .int .i64 (e : Int)) (h14 : get a 14 = .int .i64 al) (h15 : get a 15 = .int .i64 sz) (mem : M36 X w0 w c) (h0 : 0 < s) (h : s < X.E.n) (hc : c (s - 1) = false)
    (hQ : Hid (∀ a', F36 X a' → get a' 11 = .int .i64 (sl : Int) → get a' 12 = .int .i64 (s : Int) → get a' 13 = .int .i64 (e : Int) → get a' 14 = .int .i64 al → get a' 15 = .int .i64 sz → Q (.exit 10) a' w)) :
    Code.wp Try.prog (sub2 [true, true, true, true, true, true, true, false, false, true, false, true, true, true, true, false, false, false, false, true, false, false, false, true, false, true, true, false, false] (bodyOf Try.f36)) Q a w := by
  conv => arg 2; whnf
  obtain ⟨hd, hs, g0, g1, g6, g10⟩ := hF
  have zn := mem.b.n
  have zF := mem.b.F
  have MEM : Hid (M36 X w0 w c) := mem
  have el := mem.b.la (by omega)
  have ec := mem.b.ca (by omega)
  rw [el] at g0
  rw [ec] at g1
  have EL : Hid (X.la = some ⟨X.lb, 0, none⟩) := el
  have EC : Hid (X.ca = some ⟨X.cb, 0, none⟩) := ec
  clear el ec
  have cv := (mem.dv (by omega)).cell (s - 1) (by omega)
  rw [hc] at cv
  have hh : (0 : Int) < s := by omega
  clear mem
  rw [lit36 a hd hs]
  generalize get a = g at *
  simp only [g0, g1, g6, g10, h11, h12, h13, h14, h15]
  clear hd hs g0 g1 g6 g10 h11 h12 h13 h14 h15
  go_wp2
  exact hQ.out _ ⟨rfl, rfl, by rw [EL.out]; rfl, by rw [EC.out]; rfl, rfl, rfl⟩ rfl rfl rfl rfl rfl
set_option maxHeartbeats 1000000 in
set_option maxRecDepth 100000 in
theorem p26_end {X : X36} {a : Act} {w0 w : World} {c : Nat → Bool} {s : Nat} {e : Nat} {sl : Nat} {al : Int} {sz : Int}  {Q : Exit → Act → World → Prop} (hF : F36 X a) (h11 : get a 11 = .int .i64 (sl : Int)) (h12 : get a 12 = .int .i64 (s : Int)) (h13 : get a 13 = .int .i64 (e : Int)) (h14 : get a 14 = .int .i64 al) (h15 : get a 15 = .int .i64 sz) (mem : M36 X w0 w c) (h0 : s = 0)
    (hQ : Hid (∀ a', F36 X a' → get a' 11 = .int .i64 (sl : Int) → get a' 12 = .int .i64 (s : Int) → get a' 13 = .int .i64 (e : Int) → get a' 14 = .int .i64 al → get a' 15 = .int .i64 sz → Q (.exit 10) a' w)) :
    Code.wp Try.prog (sub2 [true, true, true, true, true, true, true, false, false, true, false, true, true, true, true, false, false, false, false, true, false, false, false, true, false, true, true, false, false] (bodyOf Try.f36)) Q a w := by
  conv => arg 2; whnf
  obtain ⟨hd, hs, g0, g1, g6, g10⟩ := hF
  have zn := mem.b.n
  have zF := mem.b.F
  have MEM : Hid (M36 X w0 w c) := mem
  subst h0
  clear mem
  rw [lit36 a hd hs]
  generalize get a = g at *
  simp only [g0, g1, g6, g10, h11, h12, h13, h14, h15]
  clear hd hs g0 g1 g6 g10 h11 h12 h13 h14 h15
  go_wp2
  exact hQ.out _ ⟨rfl, rfl, rfl, rfl, rfl, rfl⟩ rfl rfl rfl rfl rfl
set_option maxHeartbeats 1000000 in
set_option maxRecDepth 100000 in
theorem p28 {X : X36} {a : Act} {w0 w : World} {c : Nat → Bool} {s : Nat} {e : Nat} {sl : Nat} {al : Int} {sz : Int}  {Q : Exit → Act → World → Prop} (hF : F36 X a) (h11 : get a 11 = .int .i64 (sl : Int)) (h12 : get a 12 = .int .i64 (s : Int)) (h13 : get a 13 = .int .i64 (e : Int)) (h14 : get a 14 = .int .i64 al) (h15 : get a 15 = .int .i64 sz) (mem : M36 X w0 w c) 
    (hQ : Hid (∀ a', F36 X a' → get a' 11 = .int .i64 (sl : Int) → get a' 12 = .int .i64 (s : Int) → get a' 13 = .int .i64 (e : Int) → get a' 14 = .int .i64 (-1) → get a' 15 = .int .i64 sz → Q .normal a' w)) :
    Code.wp Try.prog (sub2 [true, true, true, true, true, true, true, false, false, true, false, true, true, true, true, false, false, false, false, true, true, false] (bodyOf Try.f36)) Q a w := by
  conv => arg 2; whnf
  obtain ⟨hd, hs, g0, g1, g6, g10⟩ := hF
  have zn := mem.b.n
  have zF := mem.b.F
  have MEM : Hid (M36 X w0 w c) := mem
  clear mem
  rw [lit36 a hd hs]
  generalize get a = g at *
  simp only [g0, g1, g6, g10, h11, h12, h13, h14, h15]
  clear hd hs g0 g1 g6 g10 h11 h12 h13 h14 h15
  go_wp2
  exact hQ.out _ ⟨rfl, rfl, rfl, rfl, rfl, rfl⟩ rfl rfl rfl rfl rfl
set_option maxHeartbeats 1000000 in
set_option maxRecDepth 100000 in
theorem p29_t {X : X36} {a : Act} {w0 w : World} {c : Nat → Bool} {s : Nat} {e : Nat} {sl : Nat} {al : Int} {sz : Int}  {Q : Exit → Act → World → Prop} (hF : F36 X a) (h11 : get a 11 = .int .i64 (sl : Int)) (h12 : get a 12 = .int .i64 (s : Int)) (h13 : get a 13 = .int .i64 (e : Int)) (h14 : get a 14 = .int .i64 al) (h15 : get a 15 = .int .i64 sz) (mem : M36 X w0 w c) (hn : 0 < X.E.n) (hsl : sl ≤ X.E.F) (hS : X.E.S sl = true)
    (hQ : Hid (∀ a', F36 X a' → get a' 11 = .int .i64 (sl : Int) → get a' 12 = .int .i64 (s : Int) → get a' 13 = .int .i64 (e : Int) → get a' 14 = .int .i64 (e : Int) → get a' 15 = .int .i64 sz → Q .normal a' w)) :
    Code.wp Try.prog (sub2 [true, true, true, true, true, true, true, false, false, true, false, true, true, true, true, false, false, false, false, true, true, true, false] (bodyOf Try.f36)) Q a w := by
  conv => arg 2; whnf
  obtain ⟨hd, hs, g0, g1, g6, g10⟩ := hF
  have zn := mem.b.n
  have zF := mem.b.F
  have MEM : Hid (M36 X w0 w c) := mem
  have sv := mem.slot hn sl hsl
  rw [hS] at sv
  clear mem
  rw [lit36 a hd hs]
  generalize get a = g at *
  simp only [g0, g1, g6, g10, h11, h12, h13, h14, h15]
  clear hd hs g0 g1 g6 g10 h11 h12 h13 h14 h15
  go_wp2
  exact hQ.out _ ⟨rfl, rfl, rfl, rfl, rfl, rfl⟩ rfl rfl rfl rfl rfl
set_option maxHeartbeats 1000000 in
set_option maxRecDepth 100000 in
theorem p29_f {X : X36} {a : Act} {w0 w : World} {c : Nat → Bool} {s : Nat} {e : Nat} {sl : Nat} {al : Int} {sz : Int}  {Q : Exit → Act → World → Prop} (hF : F36 X a) (h11 : get a 11 = .int .i64 (sl : Int)) (h12 : get a 12 = .int .i64 (s : Int)) (h13 : get a 13 = .int .i64 (e : Int)) (h14 : get a 14 = .int .i64 al) (h15 : get a 15 = .int .i64 sz) (mem : M36 X w0 w c) (hn : 0 < X.E.n) (hsl : sl ≤ X.E.F) (hS : X.E.S sl = false)
    (hQ : Hid (∀ a', F36 X a' → get a' 11 = .int .i64 (sl : Int) → get a' 12 = .int .i64 (s : Int) → get a' 13 = .int .i64 (e : Int) → get a' 14 = .int .i64 al → get a' 15 = .int .i64 sz → Q .normal a' w)) :
    Code.wp Try.prog (sub2 [true, true, true, true, true, true, true, false, false, true, false, true, true, true, true, false, false, false, false, true, true, true, false] (bodyOf Try.f36)) Q a w := by
  conv => arg 2; whnf
  obtain ⟨hd, hs, g0, g1, g6, g10⟩ := hF
  have zn := mem.b.n
  have zF := mem.b.F
  have MEM : Hid (M36 X w0 w c) := mem
  have sv := mem.slot hn sl hsl
  rw [hS] at sv
  clear mem
  rw [lit36 a hd hs]
  generalize get a = g at *
  simp only [g0, g1, g6, g10, h11, h12, h13, h14, h15]
  clear hd hs g0 g1 g6 g10 h11 h12 h13 h14 h15
  go_wp2
  exact hQ.out _ ⟨rfl, rfl, rfl, rfl, rfl, rfl⟩ rfl rfl rfl rfl rfl
set_option maxHeartbeats 1000000 in
set_option maxRecDepth 100000 in
theorem p31_in {X : X36} {a : Act} {w0 w : World} {c : Nat → Bool} {s : Nat} {e : Nat} {sl : Nat} {al : Int} {sz : Int}  {Q : Exit → Act → World → Prop} (hF : F36 X a) (h11 : get a 11 = .int .i64 (sl : Int)) (h12 : get a 12 = .int .i64 (s : Int)) (h13 : get a 13 = .int .i64 (e : Int)) (h14 : get a 14 = .int .i64 al) (h15 : get a 15 = .int .i64 sz) (mem : M36 X w0 w c) (h : s < e) (he : e < X.E.n) (heq : X.E.l s = X.E.l e)
    (hQ : Hid (∀ a' w', F36 X a' → get a' 11 = .int .i64 (sl : Int) → get a' 12 = .int .i64 (s : Int) → get a' 13 = .int .i64 (e : Int) → get a' 14 = .int .i64 al → get a' 15 = .int .i64 sz → M36 X w0 w' c → Q .normal a' w')) :
    Code.wp Try.prog (sub2 [true, true, true, true, true, true, true, false, false, true, false, true, true, true, true, false, false, false, false, true, true, true, true, false, false, false, false] (bodyOf Try.f36)) Q a w := by
  conv => arg 2; whnf
  obtain ⟨hd, hs, g0, g1, g6, g10⟩ := hF
  have zn := mem.b.n
  have zF := mem.b.F
  have MEM : Hid (M36 X w0 w c) := mem
  have el := mem.b.la (by omega)
  have ec := mem.b.ca (by omega)
  rw [el] at g0
  rw [ec] at g1
  have EL : Hid (X.la = some ⟨X.lb, 0, none⟩) := el
  have EC : Hid (X.ca = some ⟨X.cb, 0, none⟩) := ec
  clear el ec
  have l1 := mem.line s (by omega)
  have l2 := mem.line e (by omega)
  rw [heq] at l1
  have hh : (e : Int) < X.E.n := by omega
  generalize X.E.l e = lv at *
  clear mem
  rw [lit36 a hd hs]
  generalize get a = g at *
  simp only [g0, g1, g6, g10, h11, h12, h13, h14, h15]
  clear hd hs g0 g1 g6 g10 h11 h12 h13 h14 h15
  go_wp2
  go_quiet (fail)
  go_wp2
  exact hQ.out _ _ ⟨rfl, rfl, by rw [EL.out]; rfl, by rw [EC.out]; rfl, rfl, rfl⟩ rfl rfl rfl rfl rfl (MEM.out.drewN _)
set_option maxHeartbeats 1000000 in
set_option maxRecDepth 100000 in
theorem p31_out {X : X36} {a : Act} {w0 w : World} {c : Nat → Bool} {s : Nat} {e : Nat} {sl : Nat} {al : Int} {sz : Int}  {Q : Exit → Act → World → Prop} (hF : F36 X a) (h11 : get a 11 = .int .i64 (sl : Int)) (h12 : get a 12 = .int .i64 (s : Int)) (h13 : get a 13 = .int .i64 (e : Int)) (h14 : get a 14 = .int .i64 al) (h15 : get a 15 = .int .i64 sz) (mem : M36 X w0 w c) (h : s < e) (he : e < X.E.n) (heq : X.E.l s ≠ X.E.l e)
    (hQ : Hid (∀ a' w', F36 X a' → get a' 11 = .int .i64 (sl : Int) → get a' 12 = .int .i64 (s : Int) → get a' 13 = .int .i64 (e : Int) → get a' 14 = .int .i64 al → get a' 15 = .int .i64 sz → M36 X w0 w' c → Q (.exit 12) a' w')) :
    Code.wp Try.prog (sub2 [true, true, true, true, true, true, true, false, false, true, false, true, true, true, true, false, false, false, false, true, true, true, true, false, false, false, false] (bodyOf Try.f36)) Q a w := by
  conv => arg 2; whnf
  obtain ⟨hd, hs, g0, g1, g6, g10⟩ := hF
  have zn := mem.b.n
  have zF := mem.b.F
  have MEM : Hid (M36 X w0 w c) := mem
  have el := mem.b.la (by omega)
  have ec := mem.b.ca (by omega)
  rw [el] at g0
  rw [ec] at g1
  have EL : Hid (X.la = some ⟨X.lb, 0, none⟩) := el
  have EC : Hid (X.ca = some ⟨X.cb, 0, none⟩) := ec
  clear el ec
  have l1 := mem.line s (by omega)
  have l2 := mem.line e (by omega)
  have hh : (e : Int) < X.E.n := by omega
  have hne : (X.E.l s == X.E.l e) = false := by simpa using heq
  clear heq
  generalize X.E.l e = lv at *
  generalize X.E.l s = lu at *
  clear mem
  rw [lit36 a hd hs]
  generalize get a = g at *
  simp only [g0, g1, g6, g10, h11, h12, h13, h14, h15]
  clear hd hs g0 g1 g6 g10 h11 h12 h13 h14 h15
  go_wp2
  go_quiet (fail)
  go_wp2
  exact hQ.out _ _ ⟨rfl, rfl, by rw [EL.out]; rfl, by rw [EC.out]; rfl, rfl, rfl⟩ rfl rfl rfl rfl rfl (MEM.out.drewN _)
set_option maxHeartbeats 1000000 in
set_option maxRecDepth 100000 in
theorem p31_end {X : X36} {a : Act} {w0 w : World} {c : Nat → Bool} {s : Nat} {e : Nat} {sl : Nat} {al : Int} {sz : Int}  {Q : Exit → Act → World → Prop} (hF : F36 X a) (h11 : get a 11 = .int .i64 (sl : Int)) (h12 : get a 12 = .int .i64 (s : Int)) (h13 : get a 13 = .int .i64 (e : Int)) (h14 : get a 14 = .int .i64 al) (h15 : get a 15 = .int .i64 sz) (mem : M36 X w0 w c) (he : X.E.n ≤ e)
    (hQ : Hid (∀ a' w', F36 X a' → get a' 11 = .int .i64 (sl : Int) → get a' 12 = .int .i64 (s : Int) → get a' 13 = .int .i64 (e : Int) → get a' 14 = .int .i64 al → get a' 15 = .int .i64 sz → M36 X w0 w' c → Q (.exit 12) a' w')) :
    Code.wp Try.prog (sub2 [true, true, true, true, true, true, true, false, false, true, false, true, true, true, true, false, false, false, false, true, true, true, true, false, false, false, false] (bodyOf Try.f36)) Q a w := by
  conv => arg 2; whnf
  obtain ⟨hd, hs, g0, g1, g6, g10⟩ := hF
  have zn := mem.b.n
  have zF := mem.b.F
  have MEM : Hid (M36 X w0 w c) := mem
  have hh : decide ((e : Int) < (X.E.n : Int)) = false := decide_eq_false (by omega)
  have hh2 : decide (e < X.E.n) = false := decide_eq_false (by omega)
  clear mem
  rw [lit36 a hd hs]
  generalize get a = g at *
  simp only [g0, g1, g6, g10, h11, h12, h13, h14, h15]
  clear hd hs g0 g1 g6 g10 h11 h12 h13 h14 h15
  go_wp2
  go_quiet (fail)
  go_wp2
  exact hQ.out _ _ ⟨rfl, rfl, rfl, rfl, rfl, rfl⟩ rfl rfl rfl rfl rfl (MEM.out.drewN _)
set_option maxHeartbeats 1000000 in
set_option maxRecDepth 100000 in
theorem p32 {X : X36} {a : Act} {w0 w : World} {c : Nat → Bool} {s : Nat} {e : Nat} {sl : Nat} {al : Int} {sz : Int}  {Q : Exit → Act → World → Prop} (hF : F36 X a) (h11 : get a 11 = .int .i64 (sl : Int)) (h12 : get a 12 = .int .i64 (s : Int)) (h13 : get a 13 = .int .i64 (e : Int)) (h14 : get a 14 = .int .i64 al) (h15 : get a 15 = .int .i64 sz) (mem : M36 X w0 w c) (h : s < e) (he : e < X.E.n)
    (hQ : Hid (∀ a' w', F36 X a' → get a' 11 = .int .i64 (sl : Int) → get a' 12 = .int .i64 (s : Int) → get a' 13 = .int .i64 (e : Int) → get a' 14 = .int .i64 al → get a' 15 = .int .i64 sz → M36 X w0 w' (Cm.put (Cm.put c s false) e true) → Q .normal a' w')) :
    Code.wp Try.prog (sub2 [true, true, true, true, true, true, true, false, false, true, false, true, true, true, true, false, false, false, false, true, true, true, true, false, false, false, true, false, false] (bodyOf Try.f36)) Q a w := by
  conv => arg 2; whnf
  obtain ⟨hd, hs, g0, g1, g6, g10⟩ := hF
  have zn := mem.b.n
  have zF := mem.b.F
  have MEM : Hid (M36 X w0 w c) := mem
  have el := mem.b.la (by omega)
  have ec := mem.b.ca (by omega)
  rw [el] at g0
  rw [ec] at g1
  have EL : Hid (X.la = some ⟨X.lb, 0, none⟩) := el
  have EC : Hid (X.ca = some ⟨X.cb, 0, none⟩) := ec
  clear el ec
  have c1 := (mem.dv (by omega)).cell s (by omega)
  have c2 := (mem.dv (by omega)).cell e (by omega)
  have f1 := (mem.dv (by omega)).fz s
  have f2 := (mem.dv (by omega)).fz e
  clear mem
  rw [lit36 a hd hs]
  generalize get a = g at *
  simp only [g0, g1, g6, g10, h11, h12, h13, h14, h15]
  clear hd hs g0 g1 g6 g10 h11 h12 h13 h14 h15
  go_wp2
  exact hQ.out _ _ ⟨rfl, rfl, by rw [EL.out]; rfl, by rw [EC.out]; rfl, rfl, rfl⟩ rfl rfl rfl rfl rfl ((MEM.out.set s (by omega) false).set e (by omega) true)
set_option maxHeartbeats 1000000 in
set_option maxRecDepth 100000 in
theorem p33 {X : X36} {a : Act} {w0 w : World} {c : Nat → Bool} {s : Nat} {e : Nat} {sl : Nat} {al : Int} {sz : Int}  {Q : Exit → Act → World → Prop} (hF : F36 X a) (h11 : get a 11 = .int .i64 (sl : Int)) (h12 : get a 12 = .int .i64 (s : Int)) (h13 : get a 13 = .int .i64 (e : Int)) (h14 : get a 14 = .int .i64 al) (h15 : get a 15 = .int .i64 sz) (mem : M36 X w0 w c) (h : s < e) (he : e < X.E.n) (hl : sl ≤ 4096)
    (hQ : Hid (∀ a', F36 X a' → get a' 11 = .int .i64 ((sl : Int) + 1) → get a' 12 = .int .i64 ((s : Int) + 1) → get a' 13 = .int .i64 ((e : Int) + 1) → get a' 14 = .int .i64 al → get a' 15 = .int .i64 sz → Q .normal a' w)) :
    Code.wp Try.prog (sub2 [true, true, true, true, true, true, true, false, false, true, false, true, true, true, true, false, false, false, false, true, true, true, true, false, false, false, true, false, true, false] (bodyOf Try.f36)) Q a w := by
  conv => arg 2; whnf
  obtain ⟨hd, hs, g0, g1, g6, g10⟩ := hF
  have zn := mem.b.n
  have zF := mem.b.F
  have MEM : Hid (M36 X w0 w c) := mem
  clear mem
  rw [lit36 a hd hs]
  generalize get a = g at *
  simp only [g0, g1, g6, g10, h11, h12, h13, h14, h15]
  clear hd hs g0 g1 g6 g10 h11 h12 h13 h14 h15
  go_wp2
  exact hQ.out _ ⟨rfl, rfl, rfl, rfl, rfl, rfl⟩ rfl rfl rfl rfl rfl
set_option maxHeartbeats 1000000 in
set_option maxRecDepth 100000 in
theorem p34_in {X : X36} {a : Act} {w0 w : World} {c : Nat → Bool} {s : Nat} {e : Nat} {sl : Nat} {al : Int} {sz : Int}  {Q : Exit → Act → World → Prop} (hF : F36 X a) (h11 : get a 11 = .int .i64 (sl : Int)) (h12 : get a 12 = .int .i64 (s : Int)) (h13 : get a 13 = .int .i64 (e : Int)) (h14 : get a 14 = .int .i64 al) (h15 : get a 15 = .int .i64 sz) (mem : M36 X w0 w c) (h : e < X.E.n) (hc : c e = true)
    (hQ : Hid (∀ a', F36 X a' → get a' 11 = .int .i64 (sl : Int) → get a' 12 = .int .i64 (s : Int) → get a' 13 = .int .i64 ((e : Int) + 1) → get a' 14 = .int .i64 al → get a' 15 = .int .i64 sz → Q .normal a' w)) :
    Code.wp Try.prog (sub2 [true, true, true, true, true, true, true, false, false, true, false, true, true, true, true, false, false, false, false, true, true, true, true, false, false, false, true, false, true, true, false, false, false] (bodyOf Try.f36)) Q a w := by
  conv => arg 2; whnf
  obtain ⟨hd, hs, g0, g1, g6, g10⟩ := hF
  have zn := mem.b.n
  have zF := mem.b.F
  have MEM : Hid (M36 X w0 w c) := mem
  have el := mem.b.la (by omega)
  have ec := mem.b.ca (by omega)
  rw [el] at g0
  rw [ec] at g1
  have EL : Hid (X.la = some ⟨X.lb, 0, none⟩) := el
  have EC : Hid (X.ca = some ⟨X.cb, 0, none⟩) := ec
  clear el ec
  have cv := (mem.dv (by omega)).cell (e) (by omega)
  rw [hc] at cv
  have hh : (e : Int) < X.E.n := by omega
  clear mem
  rw [lit36 a hd hs]
  generalize get a = g at *
  simp only [g0, g1, g6, g10, h11, h12, h13, h14, h15]
  clear hd hs g0 g1 g6 g10 h11 h12 h13 h14 h15
  go_wp2
  exact hQ.out _ ⟨rfl, rfl, by rw [EL.out]; rfl, by rw [EC.out]; rfl, rfl, rfl⟩ rfl rfl rfl rfl rfl
set_option maxHeartbeats 1000000 in
set_option maxRecDepth 100000 in
theorem p34_end {X : X36} {a : Act} {w0 w : World} {c : Nat → Bool} {s : Nat} {e : Nat} {sl : Nat} {al : Int} {sz : Int}  {Q : Exit → Act → World → Prop} (hF : F36 X a) (h11 : get a 11 = .int .i64 (sl : Int)) (h12 : get a 12 = .int .i64 (s : Int)) (h13 : get a 13 = .int .i64 (e : Int)) (h14 : get a 14 = .int .i64 al) (h15 : get a 15 = .int .i64 sz) (mem : M36 X w0 w c) (h : X.E.n ≤ e)
    (hQ : Hid (∀ a', F36 X a' → get a' 11 = .int .i64 (sl : Int) → get a' 12 = .int .i64 (s : Int) → get a' 13 = .int .i64 (e : Int) → get a' 14 = .int .i64 al → get a' 15 = .int .i64 sz → Q (.exit 14) a' w)) :
    Code.wp Try.prog (sub2 [true, true, true, true, true, true, true, false, false, true, false, true, true, true, true, false, false, false, false, true, true, true, true, false, false, false, true, false, true, true, false, false, false] (bodyOf Try.f36)) Q a w := by
  conv => arg 2; whnf
  obtain ⟨hd, hs, g0, g1, g6, g10⟩ := hF
  have zn := mem.b.n
  have zF := mem.b.F
  have MEM : Hid (M36 X w0 w c) := mem
  have hh : (X.E.n : Int) ≤ e := by omega
  clear mem
  rw [lit36 a hd hs]
  generalize get a = g at *
  simp only [g0, g1, g6, g10, h11, h12, h13, h14, h15]
  clear hd hs g0 g1 g6 g10 h11 h12 h13 h14 h15
  go_wp2
  exact hQ.out _ ⟨rfl, rfl, rfl, rfl, rfl, rfl⟩ rfl rfl rfl rfl rfl
set_option maxHeartbeats 1000000 in
set_option maxRecDepth 100000 in
theorem p34_out {X : X36} {a : Act} {w0 w : World} {c : Nat → Bool} {s : Nat} {e : Nat} {sl : Nat} {al : Int} {sz : Int}  {Q : Exit → Act → World → Prop} (hF : F36 X a) (h11 : get a 11 = .int .i64 (sl : Int)) (h12 : get a 12 = .int .i64 (s : Int)) (h13 : get a 13 = .int .i64 (e : Int)) (h14 : get a 14 = .int .i64 al) (h15 : get a 15 = .int .i64 sz) (mem : M36 X w0 w c) (h : e < X.E.n) (hc : c e = false)
    (hQ : Hid (∀ a', F36 X a' → get a' 11 = .int .i64 (sl : Int) → get a' 12 = .int .i64 (s : Int) → get a' 13 = .int .i64 (e : Int) → get a' 14 = .int .i64 al → get a' 15 = .int .i64 sz → Q (.exit 14) a' w)) :
    Code.wp Try.prog (sub2 [true, true, true, true, true, true, true, false, false, true, false, true, true, true, true, false, false, false, false, true, true, true, true, false, false, false, true, false, true, true, false, false, false] (bodyOf Try.f36)) Q a w := by
  conv => arg 2; whnf
  obtain ⟨hd, hs, g0, g1, g6, g10⟩ := hF
  have zn := mem.b.n
  have zF := mem.b.F
  have MEM : Hid (M36 X w0 w c) := mem
  have el := mem.b.la (by omega)
  have ec := mem.b.ca (by omega)
  rw [el] at g0
  rw [ec] at g1
  have EL : Hid (X.la = some ⟨X.lb, 0, none⟩) := el
  have EC : Hid (X.ca = some ⟨X.cb, 0, none⟩) := ec
  clear el ec
  have cv := (mem.dv (by omega)).cell (e) (by omega)
  rw [hc] at cv
  have hh : (e : Int) < X.E.n := by omega
  clear mem
  rw [lit36 a hd hs]
  generalize get a = g at *
  simp only [g0, g1, g6, g10, h11, h12, h13, h14, h15]
  clear hd hs g0 g1 g6 g10 h11 h12 h13 h14 h15
  go_wp2
  exact hQ.out _ ⟨rfl, rfl, by rw [EL.out]; rfl, by rw [EC.out]; rfl, rfl, rfl⟩ rfl rfl rfl rfl rfl
set_option maxHeartbeats 1000000 in
set_option maxRecDepth 100000 in
theorem p36_t {X : X36} {a : Act} {w0 w : World} {c : Nat → Bool} {s : Nat} {e : Nat} {sl : Nat} {al : Int} {sz : Int}  {Q : Exit → Act → World → Prop} (hF : F36 X a) (h11 : get a 11 = .int .i64 (sl : Int)) (h12 : get a 12 = .int .i64 (s : Int)) (h13 : get a 13 = .int .i64 (e : Int)) (h14 : get a 14 = .int .i64 al) (h15 : get a 15 = .int .i64 sz) (mem : M36 X w0 w c) (hn : 0 < X.E.n) (hsl : sl ≤ X.E.F) (hS : X.E.S sl = true)
    (hQ : Hid (∀ a', F36 X a' → get a' 11 = .int .i64 (sl : Int) → get a' 12 = .int .i64 (s : Int) → get a' 13 = .int .i64 (e : Int) → get a' 14 = .int .i64 (e : Int) → get a' 15 = .int .i64 sz → Q .normal a' w)) :
    Code.wp Try.prog (sub2 [true, true, true, true, true, true, true, false, false, true, false, true, true, true, true, false, false, false, false, true, true, true, true, false, false, false, true, false, true, true, true] (bodyOf Try.f36)) Q a w := by
  conv => arg 2; whnf
  obtain ⟨hd, hs, g0, g1, g6, g10⟩ := hF
  have zn := mem.b.n
  have zF := mem.b.F
  have MEM : Hid (M36 X w0 w c) := mem
  have sv := mem.slot hn sl hsl
  rw [hS] at sv
  clear mem
  rw [lit36 a hd hs]
  generalize get a = g at *
  simp only [g0, g1, g6, g10, h11, h12, h13, h14, h15]
  clear hd hs g0 g1 g6 g10 h11 h12 h13 h14 h15
  go_wp2
  exact hQ.out _ ⟨rfl, rfl, rfl, rfl, rfl, rfl⟩ rfl rfl rfl rfl rfl
set_option maxHeartbeats 1000000 in
set_option maxRecDepth 100000 in
theorem p36_f {X : X36} {a : Act} {w0 w : World} {c : Nat → Bool} {s : Nat} {e : Nat} {sl : Nat} {al : Int} {sz : Int}  {Q : Exit → Act → World → Prop} (hF : F36 X a) (h11 : get a 11 = .int .i64 (sl : Int)) (h12 : get a 12 = .int .i64 (s : Int)) (h13 : get a 13 = .int .i64 (e : Int)) (h14 : get a 14 = .int .i64 al) (h15 : get a 15 = .int .i64 sz) (mem : M36 X w0 w c) (hn : 0 < X.E.n) (hsl : sl ≤ X.E.F) (hS : X.E.S sl = false)
    (hQ : Hid (∀ a', F36 X a' → get a' 11 = .int .i64 (sl : Int) → get a' 12 = .int .i64 (s : Int) → get a' 13 = .int .i64 (e : Int) → get a' 14 = .int .i64 al → get a' 15 = .int .i64 sz → Q .normal a' w)) :
    Code.wp Try.prog (sub2 [true, true, true, true, true, true, true, false, false, true, false, true, true, true, true, false, false, false, false, true, true, true, true, false, false, false, true, false, true, true, true] (bodyOf Try.f36)) Q a w := by
  conv => arg 2; whnf
  obtain ⟨hd, hs, g0, g1, g6, g10⟩ := hF
  have zn := mem.b.n
  have zF := mem.b.F
  have MEM : Hid (M36 X w0 w c) := mem
  have sv := mem.slot hn sl hsl
  rw [hS] at sv
  clear mem
  rw [lit36 a hd hs]
  generalize get a = g at *
  simp only [g0, g1, g6, g10, h11, h12, h13, h14, h15]
  clear hd hs g0 g1 g6 g10 h11 h12 h13 h14 h15
  go_wp2
  exact hQ.out _ ⟨rfl, rfl, rfl, rfl, rfl, rfl⟩ rfl rfl rfl rfl rfl
set_option maxHeartbeats 1000000 in
set_option maxRecDepth 100000 in
theorem p38_eq {X : X36} {a : Act} {w0 w : World} {c : Nat → Bool} {s : Nat} {e : Nat} {sl : Nat} {al : Int} {sz : Int}  {Q : Exit → Act → World → Prop} (hF : F36 X a) (h11 : get a 11 = .int .i64 (sl : Int)) (h12 : get a 12 = .int .i64 (s : Int)) (h13 : get a 13 = .int .i64 (e : Int)) (h14 : get a 14 = .int .i64 al) (h15 : get a 15 = .int .i64 sz) (mem : M36 X w0 w c) (h : s < e) (he : e ≤ X.E.n) (hz : (e : Int) - s = sz)
    (hQ : Hid (∀ a', F36 X a' → get a' 11 = .int .i64 (sl : Int) → get a' 12 = .int .i64 (s : Int) → get a' 13 = .int .i64 (e : Int) → get a' 14 = .int .i64 al → get a' 15 = .int .i64 sz → Q (.exit 6) a' w)) :
    Code.wp Try.prog (sub2 [true, true, true, true, true, true, true, false, false, true, false, true, true, true, true, false, false, false, false, true, true, true, true, true] (bodyOf Try.f36)) Q a w := by
  conv => arg 2; whnf
  obtain ⟨hd, hs, g0, g1, g6, g10⟩ := hF
  have zn := mem.b.n
  have zF := mem.b.F
  have MEM : Hid (M36 X w0 w c) := mem
  have hz2 : ((e : Int) - s == sz) = true := by simp; omega
  clear mem
  rw [lit36 a hd hs]
  generalize get a = g at *
  simp only [g0, g1, g6, g10, h11, h12, h13, h14, h15]
  clear hd hs g0 g1 g6 g10 h11 h12 h13 h14 h15
  go_wp2
  exact hQ.out _ ⟨rfl, rfl, rfl, rfl, rfl, rfl⟩ rfl rfl rfl rfl rfl
set_option maxHeartbeats 1000000 in
set_option maxRecDepth 100000 in
theorem p38_ne {X : X36} {a : Act} {w0 w : World} {c : Nat → Bool} {s : Nat} {e : Nat} {sl : Nat} {al : Int} {sz : Int}  {Q : Exit → Act → World → Prop} (hF : F36 X a) (h11 : get a 11 = .int .i64 (sl : Int)) (h12 : get a 12 = .int .i64 (s : Int)) (h13 : get a 13 = .int .i64 (e : Int)) (h14 : get a 14 = .int .i64 al) (h15 : get a 15 = .int .i64 sz) (mem : M36 X w0 w c) (h : s < e) (he : e ≤ X.E.n) (hz : (e : Int) - s ≠ sz)
    (hQ : Hid (∀ a', F36 X a' → get a' 11 = .int .i64 (sl : Int) → get a' 12 = .int .i64 (s : Int) → get a' 13 = .int .i64 (e : Int) → get a' 14 = .int .i64 al → get a' 15 = .int .i64 sz → Q .normal a' w)) :
    Code.wp Try.prog (sub2 [true, true, true, true, true, true, true, false, false, true, false, true, true, true, true, false, false, false, false, true, true, true, true, true] (bodyOf Try.f36)) Q a w := by
  conv => arg 2; whnf
  obtain ⟨hd, hs, g0, g1, g6, g10⟩ := hF
  have zn := mem.b.n
  have zF := mem.b.F
  have MEM : Hid (M36 X w0 w c) := mem
  have hz2 : ((e : Int) - s == sz) = false := by simp; omega
  clear mem
  rw [lit36 a hd hs]
  generalize get a = g at *
  simp only [g0, g1, g6, g10, h11, h12, h13, h14, h15]
  clear hd hs g0 g1 g6 g10 h11 h12 h13 h14 h15
  go_wp2
  exact hQ.out _ ⟨rfl, rfl, rfl, rfl, rfl, rfl⟩ rfl rfl rfl rfl rfl
set_option maxHeartbeats 1000000 in
set_option maxRecDepth 100000 in
theorem p39_in {X : X36} {a : Act} {w0 w : World} {c : Nat → Bool} {s : Nat} {e : Nat} {sl : Nat} {al : Int} {sz : Int}  {Q : Exit → Act → World → Prop} (hF : F36 X a) (h11 : get a 11 = .int .i64 (sl : Int)) (h12 : get a 12 = .int .i64 (s : Int)) (h13 : get a 13 = .int .i64 (e : Int)) (h14 : get a 14 = .int .i64 al) (h15 : get a 15 = .int .i64 sz) (mem : M36 X w0 w c) (h0 : 0 < s) (h : s < e) (he : e ≤ X.E.n) (hl : 0 < sl) (hl2 : sl ≤ 4096) (hal : 0 ≤ al) (hgt : al < (e : Int))
    (hQ : Hid (∀ a' w', F36 X a' → get a' 11 = .int .i64 ((sl - 1 : Nat) : Int) → get a' 12 = .int .i64 ((s - 1 : Nat) : Int) → get a' 13 = .int .i64 ((e - 1 : Nat) : Int) → get a' 14 = .int .i64 al → get a' 15 = .int .i64 sz → M36 X w0 w' (Cm.up c s e) → Q .normal a' w')) :
    Code.wp Try.prog (sub2 [true, true, true, true, true, true, true, false, false, true, false, true, true, true, true, true, false, false, false] (bodyOf Try.f36)) Q a w := by
  conv => arg 2; whnf
  obtain ⟨hd, hs, g0, g1, g6, g10⟩ := hF
  have zn := mem.b.n
  have zF := mem.b.F
  have MEM : Hid (M36 X w0 w c) := mem
  have el := mem.b.la (by omega)
  have ec := mem.b.ca (by omega)
  rw [el] at g0
  rw [ec] at g1
  have EL : Hid (X.la = some ⟨X.lb, 0, none⟩) := el
  have EC : Hid (X.ca = some ⟨X.cb, 0, none⟩) := ec
  clear el ec
  have c1 := (mem.dv (by omega)).cell (s - 1) (by omega)
  have c2 := (mem.dv (by omega)).cell (e - 1) (by omega)
  have f1 := (mem.dv (by omega)).fz (s - 1)
  have f2 := (mem.dv (by omega)).fz (e - 1)
  have hh1 : (0 : Int) ≤ al := hal
  have hh2 : al < (e : Int) := hgt
  clear mem
  rw [lit36 a hd hs]
  generalize get a = g at *
  simp only [g0, g1, g6, g10, h11, h12, h13, h14, h15]
  clear hd hs g0 g1 g6 g10 h11 h12 h13 h14 h15
  go_wp2
  exact hQ.out _ _ ⟨rfl, rfl, by rw [EL.out]; rfl, by rw [EC.out]; rfl, rfl, rfl⟩ (congrArg (Value.int .i64) (by omega)) (congrArg (Value.int .i64) (by omega)) (congrArg (Value.int .i64) (by omega)) rfl rfl ((MEM.out.set (s - 1) (by omega) true).set (e - 1) (by omega) false)
set_option maxHeartbeats 1000000 in
set_option maxRecDepth 100000 in
theorem p39_neg {X : X36} {a : Act} {w0 w : World} {c : Nat → Bool} {s : Nat} {e : Nat} {sl : Nat} {al : Int} {sz : Int}  {Q : Exit → Act → World → Prop} (hF : F36 X a) (h11 : get a 11 = .int .i64 (sl : Int)) (h12 : get a 12 = .int .i64 (s : Int)) (h13 : get a 13 = .int .i64 (e : Int)) (h14 : get a 14 = .int .i64 al) (h15 : get a 15 = .int .i64 sz) (mem : M36 X w0 w c) (hal : al < 0)
    (hQ : Hid (∀ a', F36 X a' → get a' 11 = .int .i64 (sl : Int) → get a' 12 = .int .i64 (s : Int) → get a' 13 = .int .i64 (e : Int) → get a' 14 = .int .i64 al → get a' 15 = .int .i64 sz → Q (.exit 16) a' w)) :
    Code.wp Try.prog (sub2 [true, true, true, true, true, true, true, false, false, true, false, true, true, true, true, true, false, false, false] (bodyOf Try.f36)) Q a w := by
  conv => arg 2; whnf
  obtain ⟨hd, hs, g0, g1, g6, g10⟩ := hF
  have zn := mem.b.n
  have zF := mem.b.F
  have MEM : Hid (M36 X w0 w c) := mem
  clear mem
  rw [lit36 a hd hs]
  generalize get a = g at *
  simp only [g0, g1, g6, g10, h11, h12, h13, h14, h15]
  clear hd hs g0 g1 g6 g10 h11 h12 h13 h14 h15
  go_wp2
  exact hQ.out _ ⟨rfl, rfl, rfl, rfl, rfl, rfl⟩ rfl rfl rfl rfl rfl
set_option maxHeartbeats 1000000 in
set_option maxRecDepth 100000 in
theorem p39_out {X : X36} {a : Act} {w0 w : World} {c : Nat → Bool} {s : Nat} {e : Nat} {sl : Nat} {al : Int} {sz : Int}  {Q : Exit → Act → World → Prop} (hF : F36 X a) (h11 : get a 11 = .int .i64 (sl : Int)) (h12 : get a 12 = .int .i64 (s : Int)) (h13 : get a 13 = .int .i64 (e : Int)) (h14 : get a 14 = .int .i64 al) (h15 : get a 15 = .int .i64 sz) (mem : M36 X w0 w c) (hal : 0 ≤ al) (hgt : (e : Int) ≤ al)
    (hQ : Hid (∀ a', F36 X a' → get a' 11 = .int .i64 (sl : Int) → get a' 12 = .int .i64 (s : Int) → get a' 13 = .int .i64 (e : Int) → get a' 14 = .int .i64 al → get a' 15 = .int .i64 sz → Q (.exit 16) a' w)) :
    Code.wp Try.prog (sub2 [true, true, true, true, true, true, true, false, false, true, false, true, true, true, true, true, false, false, false] (bodyOf Try.f36)) Q a w := by
  conv => arg 2; whnf
  obtain ⟨hd, hs, g0, g1, g6, g10⟩ := hF
  have zn := mem.b.n
  have zF := mem.b.F
  have MEM : Hid (M36 X w0 w c) := mem
  clear mem
  rw [lit36 a hd hs]
  generalize get a = g at *
  simp only [g0, g1, g6, g10, h11, h12, h13, h14, h15]
  clear hd hs g0 g1 g6 g10 h11 h12 h13 h14 h15
  go_wp2
  exact hQ.out _ ⟨rfl, rfl, rfl, rfl, rfl, rfl⟩ rfl rfl rfl rfl rfl
set_option maxHeartbeats 1000000 in
set_option maxRecDepth 100000 in
theorem p42 {X : X36} {a : Act} {w0 w : World} {c : Nat → Bool} {s : Nat} {e : Nat} {sl : Nat} {al : Int} {sz : Int}  {Q : Exit → Act → World → Prop} (hF : F36 X a) (h11 : get a 11 = .int .i64 (sl : Int)) (h12 : get a 12 = .int .i64 (s : Int)) (h13 : get a 13 = .int .i64 (e : Int)) (h14 : get a 14 = .int .i64 al) (h15 : get a 15 = .int .i64 sz) (mem : M36 X w0 w c) 
    (hQ : Hid (∀ a', F36 X a' → get a' 11 = .int .i64 (sl : Int) → get a' 12 = .int .i64 (e : Int) → get a' 13 = .int .i64 (e : Int) → get a' 14 = .int .i64 al → get a' 15 = .int .i64 sz → Q .normal a' w)) :
    Code.wp Try.prog (sub2 [true, true, true, true, true, true, true, false, false, true, false, true, true, true, true, true, true] (bodyOf Try.f36)) Q a w := by
  conv => arg 2; whnf
  obtain ⟨hd, hs, g0, g1, g6, g10⟩ := hF
  have zn := mem.b.n
  have zF := mem.b.F
  have MEM : Hid (M36 X w0 w c) := mem
  clear mem
  rw [lit36 a hd hs]
  generalize get a = g at *
  simp only [g0, g1, g6, g10, h11, h12, h13, h14, h15]
  clear hd hs g0 g1 g6 g10 h11 h12 h13 h14 h15
  go_wp2
  exact hQ.out _ ⟨rfl, rfl, rfl, rfl, rfl, rfl⟩ rfl rfl rfl rfl rfl
end Go.Proofs.Qxb6601687a
