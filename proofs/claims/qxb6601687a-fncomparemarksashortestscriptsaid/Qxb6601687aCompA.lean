/-
  THE WALK OF compare (function 32), part 1: the frame, the memory, the pieces.
-/
import Derived.Test.Qxb6601687aSnakeK
import Derived.Test.Qxb6601687aSmall
import Derived.Test.Qxb6601687aCmp
namespace Go.Proofs.Qxb6601687a
open Go.RowKit
set_option linter.unusedVariables false
set_option linter.unusedSimpArgs false

/-- a part of a body, the ways of a test too -/
def cl2 : Code → Code
  | .seq a _ => a
  | .block _ c => c
  | .loop c => c
  | .cond _ a _ => a
  | c => c
def cr2 : Code → Code
  | .seq _ b => b
  | .cond _ _ b => b
  | c => c
def sub2 : List Bool → Code → Code
  | [], c => c
  | false :: p, c => sub2 p (cl2 c)
  | true :: p, c => sub2 p (cr2 c)

set_option maxRecDepth 100000 in
theorem lit32 (a : Act) (hd : a.defers = []) (hs : a.tmps.size = 192) : a = ⟨#[get a 0, get a 1, get a 2, get a 3, get a 4, get a 5, get a 6, get a 7, get a 8, get a 9, get a 10, get a 11, get a 12, get a 13, get a 14, get a 15, get a 16, get a 17, get a 18, get a 19, get a 20, get a 21, get a 22, get a 23, get a 24, get a 25, get a 26, get a 27, get a 28, get a 29, get a 30, get a 31, get a 32, get a 33, get a 34, get a 35, get a 36, get a 37, get a 38, get a 39, get a 40, get a 41, get a 42, get a 43, get a 44, get a 45, get a 46, get a 47, get a 48, get a 49, get a 50, get a 51, get a 52, get a 53, get a 54, get a 55, get a 56, get a 57, get a 58, get a 59, get a 60, get a 61, get a 62, get a 63, get a 64, get a 65, get a 66, get a 67, get a 68, get a 69, get a 70, get a 71, get a 72, get a 73, get a 74, get a 75, get a 76, get a 77, get a 78, get a 79, get a 80, get a 81, get a 82, get a 83, get a 84, get a 85, get a 86, get a 87, get a 88, get a 89, get a 90, get a 91, get a 92, get a 93, get a 94, get a 95, get a 96, get a 97, get a 98, get a 99, get a 100, get a 101, get a 102, get a 103, get a 104, get a 105, get a 106, get a 107, get a 108, get a 109, get a 110, get a 111, get a 112, get a 113, get a 114, get a 115, get a 116, get a 117, get a 118, get a 119, get a 120, get a 121, get a 122, get a 123, get a 124, get a 125, get a 126, get a 127, get a 128, get a 129, get a 130, get a 131, get a 132, get a 133, get a 134, get a 135, get a 136, get a 137, get a 138, get a 139, get a 140, get a 141, get a 142, get a 143, get a 144, get a 145, get a 146, get a 147, get a 148, get a 149, get a 150, get a 151, get a 152, get a 153, get a 154, get a 155, get a 156, get a 157, get a 158, get a 159, get a 160, get a 161, get a 162, get a 163, get a 164, get a 165, get a 166, get a 167, get a 168, get a 169, get a 170, get a 171, get a 172, get a 173, get a 174, get a 175, get a 176, get a 177, get a 178, get a 179, get a 180, get a 181, get a 182, get a 183, get a 184, get a 185, get a 186, get a 187, get a 188, get a 189, get a 190, get a 191], []⟩ := act_eq a 192 hd hs

structure C32 where
  (pd ab bb db ib la ca lb cb : Nat)
  (va vb : Value)
  (A B : Nat → Int)

structure Fy (C : C32) (a : Act) : Prop where
  d : a.defers = []
  s : a.tmps.size = 192
  g0 : get a 0 = .pointer (some ⟨C.pd, 0, none⟩)
  g10 : get a 10 = .bool false

structure Sz2 (C : C32) : Prop where
  la : C.la ≤ 1024
  lb : C.lb ≤ 1024
  e1 : C.ab ≠ C.pd
  e2 : C.bb ≠ C.pd
  e3 : C.db ≠ C.pd
  e4 : C.ib ≠ C.pd
  e5 : C.ab ≠ C.db
  e6 : C.bb ≠ C.db
  e7 : C.ab ≠ C.ib
  e8 : C.bb ≠ C.ib
  e9 : C.db ≠ C.ib
  va : 0 < C.la → C.va = .slice (some ⟨C.ab, 0, none⟩) C.la C.ca
  vb : 0 < C.lb → C.vb = .slice (some ⟨C.bb, 0, none⟩) C.lb C.cb

/-- the memory: the marks dl, il; s steps left; the two rows vf, vg -/
structure M (C : C32) (w : World) (dl il : Nat → Bool) (s : Int) (vf vg : Value) : Prop where
  dd : w.heap[C.pd]? = some (.cells #[C.va, C.vb, .slice (some ⟨C.db, 0, none⟩) C.la C.la, .slice (some ⟨C.ib, 0, none⟩) C.lb C.lb, vf, vg, .int .i64 s] 42 (0, 0))
  dv : ∃ arr, w.heap[C.db]? = some (.cells arr 4 (0, 0)) ∧ arr.size = C.la ∧ ∀ i, i < C.la → arr[i]? = some (.bool (dl i))
  iv : ∃ arr, w.heap[C.ib]? = some (.cells arr 4 (0, 0)) ∧ arr.size = C.lb ∧ ∀ i, i < C.lb → arr[i]? = some (.bool (il i))
  aa : ∀ i, i < C.la → w.cell? ⟨C.ab, i, none⟩ = some (.int .i32 (C.A i))
  bb : ∀ i, i < C.lb → w.cell? ⟨C.bb, i, none⟩ = some (.int .i32 (C.B i))

/-- the two rows of the search, as large as N -/
structure Al (C : C32) (w : World) (fb gb N : Nat) : Prop where
  ff : ∃ arr, w.heap[fb]? = some (.cells arr 3 (0, 0)) ∧ arr.size = N
  gg : ∃ arr, w.heap[gb]? = some (.cells arr 3 (0, 0)) ∧ arr.size = N
  fg : fb ≠ gb
  f1 : C.pd ≠ fb
  f2 : C.ab ≠ fb
  f3 : C.bb ≠ fb
  f4 : C.db ≠ fb
  f5 : C.ib ≠ fb
  g1 : C.pd ≠ gb
  g2 : C.ab ≠ gb
  g3 : C.bb ≠ gb
  g4 : C.db ≠ gb
  g5 : C.ib ≠ gb
  NN : N ≤ 1000000

/-- only the five blocks have turned -/
structure Sk (C : C32) (fb gb : Nat) (w w' : World) : Prop where
  os : w'.os = w.os
  tape : w'.tape = w.tape
  output : w'.output = w.output
  size : w'.heap.size = w.heap.size
  block : ∀ k, k ≠ C.pd → k ≠ C.db → k ≠ C.ib → k ≠ fb → k ≠ gb → w'.heap[k]? = w.heap[k]?

theorem Sk.refl (C : C32) (fb gb : Nat) (w : World) : Sk C fb gb w w := ⟨rfl, rfl, rfl, rfl, fun _ _ _ _ _ _ => rfl⟩
theorem Sk.trans {C : C32} {fb gb : Nat} {a b c : World} (h : Sk C fb gb a b) (k : Sk C fb gb b c) : Sk C fb gb a c :=
  ⟨k.os.trans h.os, k.tape.trans h.tape, k.output.trans h.output, k.size.trans h.size, fun i h1 h2 h3 h4 h5 => (k.block i h1 h2 h3 h4 h5).trans (h.block i h1 h2 h3 h4 h5)⟩
theorem Sk.drewN {C : C32} {fb gb : Nat} {a w : World} (h : Sk C fb gb a w) (n : Nat) : Sk C fb gb a (w.drewN n) := ⟨h.os, h.tape, h.output, h.size, h.block⟩
theorem Sk.setCell {C : C32} {fb gb : Nat} {a w : World} (h : Sk C fb gb a w) {p : Addr} (hp : p.block = C.pd ∨ p.block = C.db ∨ p.block = C.ib) (u : Value) : Sk C fb gb a (w.setCell p u) :=
  h.trans ⟨rfl, rfl, rfl, by simp [World.setCell], fun k h1 h2 h3 h4 h5 => Below.heap_setCell _ _ _ _ (by omega)⟩

theorem M.drewN {C w dl il s vf vg} (h : M C w dl il s vf vg) (n : Nat) : M C (w.drewN n) dl il s vf vg := ⟨h.dd, h.dv, h.iv, h.aa, h.bb⟩
theorem Al.drewN {C w fb gb N} (h : Al C w fb gb N) (n : Nat) : Al C (w.drewN n) fb gb N := ⟨h.ff, h.gg, h.fg, h.f1, h.f2, h.f3, h.f4, h.f5, h.g1, h.g2, h.g3, h.g4, h.g5, h.NN⟩
theorem M.d0 {C w dl il s vf vg} (h : M C w dl il s vf vg) : w.cell? ⟨C.pd, 0, none⟩ = some C.va := by simp [World.cell?, h.dd]
theorem M.d1 {C w dl il s vf vg} (h : M C w dl il s vf vg) : w.cell? ⟨C.pd, 1, none⟩ = some C.vb := by simp [World.cell?, h.dd]
theorem M.d2 {C w dl il s vf vg} (h : M C w dl il s vf vg) : w.cell? ⟨C.pd, 2, none⟩ = some (.slice (some ⟨C.db, 0, none⟩) C.la C.la) := by simp [World.cell?, h.dd]
theorem M.d3 {C w dl il s vf vg} (h : M C w dl il s vf vg) : w.cell? ⟨C.pd, 3, none⟩ = some (.slice (some ⟨C.ib, 0, none⟩) C.lb C.lb) := by simp [World.cell?, h.dd]
theorem M.d4 {C w dl il s vf vg} (h : M C w dl il s vf vg) : w.cell? ⟨C.pd, 4, none⟩ = some vf := by simp [World.cell?, h.dd]
theorem M.d5 {C w dl il s vf vg} (h : M C w dl il s vf vg) : w.cell? ⟨C.pd, 5, none⟩ = some vg := by simp [World.cell?, h.dd]
theorem M.dfz {C w dl il s vf vg} (h : M C w dl il s vf vg) (o : Nat) : w.frozen? ⟨C.pd, o, none⟩ = false := by simp [World.frozen?, h.dd]
theorem M.del {C w dl il s vf vg} (h : M C w dl il s vf vg) (i : Nat) (hi : i < C.la) : w.cell? ⟨C.db, i, none⟩ = some (.bool (dl i)) := by
  obtain ⟨arr, h1, h2, h3⟩ := h.dv
  simp [World.cell?, h1, h3 i hi]
theorem M.ins {C w dl il s vf vg} (h : M C w dl il s vf vg) (i : Nat) (hi : i < C.lb) : w.cell? ⟨C.ib, i, none⟩ = some (.bool (il i)) := by
  obtain ⟨arr, h1, h2, h3⟩ := h.iv
  simp [World.cell?, h1, h3 i hi]
theorem M.vfz {C w dl il s vf vg} (h : M C w dl il s vf vg) (i : Nat) : w.frozen? ⟨C.db, i, none⟩ = false := by
  obtain ⟨arr, h1, h2, h3⟩ := h.dv
  simp [World.frozen?, h1]
theorem M.wfz {C w dl il s vf vg} (h : M C w dl il s vf vg) (i : Nat) : w.frozen? ⟨C.ib, i, none⟩ = false := by
  obtain ⟨arr, h1, h2, h3⟩ := h.iv
  simp [World.frozen?, h1]

theorem M.setDel {C w dl il s vf vg} (h : M C w dl il s vf vg) (sz : Sz2 C) (i : Nat) (hi : i < C.la) : M C (w.setCell ⟨C.db, i, none⟩ (.bool true)) (fun t => if t = i then true else dl t) il s vf vg := by
  obtain ⟨arr, h1, h2, h3⟩ := h.dv
  obtain ⟨irr, k1, k2, k3⟩ := h.iv
  refine ⟨?_, ⟨arr.setIfInBounds i (.bool true), heap_setCell_at _ _ _ _ _ _ _ h1, by simpa using h2, fun t ht => ?_⟩, ⟨irr, ?_, k2, k3⟩, fun t ht => ?_, fun t ht => ?_⟩
  · rw [Below.heap_setCell _ _ _ _ (by exact sz.e3.symm)]; exact h.dd
  · by_cases hti : t = i
    · subst hti; rw [if_pos rfl, Array.getElem?_setIfInBounds_self_of_lt (by omega)]
    · rw [if_neg hti, Array.getElem?_setIfInBounds_ne (by omega)]; exact h3 t ht
  · rw [Below.heap_setCell _ _ _ _ (by exact sz.e9.symm)]; exact k1
  · rw [World.cell?_of_block (w := w) (Below.heap_setCell _ _ _ _ (by exact sz.e5))]; exact h.aa t ht
  · rw [World.cell?_of_block (w := w) (Below.heap_setCell _ _ _ _ (by exact sz.e6))]; exact h.bb t ht

theorem M.setIns {C w dl il s vf vg} (h : M C w dl il s vf vg) (sz : Sz2 C) (i : Nat) (hi : i < C.lb) : M C (w.setCell ⟨C.ib, i, none⟩ (.bool true)) dl (fun t => if t = i then true else il t) s vf vg := by
  obtain ⟨arr, h1, h2, h3⟩ := h.dv
  obtain ⟨irr, k1, k2, k3⟩ := h.iv
  refine ⟨?_, ⟨arr, ?_, h2, h3⟩, ⟨irr.setIfInBounds i (.bool true), heap_setCell_at _ _ _ _ _ _ _ k1, by simpa using k2, fun t ht => ?_⟩, fun t ht => ?_, fun t ht => ?_⟩
  · rw [Below.heap_setCell _ _ _ _ (by exact sz.e4.symm)]; exact h.dd
  · rw [Below.heap_setCell _ _ _ _ (by exact sz.e9)]; exact h1
  · by_cases hti : t = i
    · subst hti; rw [if_pos rfl, Array.getElem?_setIfInBounds_self_of_lt (by omega)]
    · rw [if_neg hti, Array.getElem?_setIfInBounds_ne (by omega)]; exact k3 t ht
  · rw [World.cell?_of_block (w := w) (Below.heap_setCell _ _ _ _ (by exact sz.e7))]; exact h.aa t ht
  · rw [World.cell?_of_block (w := w) (Below.heap_setCell _ _ _ _ (by exact sz.e8))]; exact h.bb t ht

theorem Al.setCell {C w fb gb N} (h : Al C w fb gb N) {p : Addr} (hp : p.block = C.pd ∨ p.block = C.db ∨ p.block = C.ib) (u : Value) : Al C (w.setCell p u) fb gb N := by
  obtain ⟨a1, a2, a3⟩ := h.ff
  obtain ⟨b1, b2, b3⟩ := h.gg
  have := h.f1; have := h.f4; have := h.f5; have := h.g1; have := h.g4; have := h.g5
  refine ⟨⟨a1, ?_, a3⟩, ⟨b1, ?_, b3⟩, h.fg, h.f1, h.f2, h.f3, h.f4, h.f5, h.g1, h.g2, h.g3, h.g4, h.g5, h.NN⟩
  · rw [Below.heap_setCell _ _ _ _ (by omega)]; exact a2
  · rw [Below.heap_setCell _ _ _ _ (by omega)]; exact b2

/-- the marks by extension -/
theorem M.ext {C w dl il dl' il' s vf vg} (h : M C w dl il s vf vg) (h1 : ∀ i, dl i = dl' i) (h2 : ∀ i, il i = il' i) : M C w dl' il' s vf vg := by
  rw [show dl' = dl from (funext h1).symm, show il' = il from (funext h2).symm]; exact h

set_option maxHeartbeats 1000000 in
set_option maxRecDepth 100000 in
theorem t1_yes {C : C32} {a : Act} {w : World} {dl il : Nat → Bool} {vf vg : Value} {i0 i1 j0 j1 : Nat} {s : Int} {Q : Exit → Act → World → Prop} (sz : Sz2 C) (hF : Fy C a) (h1 : get a 1 = .int .i64 i0) (h2 : get a 2 = .int .i64 i1) (h3 : get a 3 = .int .i64 j0) (h4 : get a 4 = .int .i64 j1) (mem : M C w dl il s vf vg) (hi : i1 ≤ C.la) (hj : j1 ≤ C.lb) (h5 : i0 < i1) (h6 : j0 < j1) (heq : (C.A i0 == C.B j0) = true)
    (hQ : Hid (∀ a' w', Fy C a' → get a' 1 = .int .i64 ((i0 : Int) + 1) → get a' 2 = .int .i64 i1 → get a' 3 = .int .i64 ((j0 : Int) + 1) → get a' 4 = .int .i64 j1 → (∃ nq, w' = w.drewN nq) → Q .normal a' w')) :
    Code.wp Try.prog (sub2 [true, false, false, false] (bodyOf Try.f32)) Q a w := by
  conv => arg 2; whnf
  obtain ⟨hd, hs, g0, g10⟩ := hF
  have zla := sz.la
  have zlb := sz.lb
  have c0 := mem.d0
  have c1 := mem.d1
  rw [sz.va (by omega)] at c0
  rw [sz.vb (by omega)] at c1
  have cA := mem.aa i0 (by omega)
  have cB := mem.bb j0 (by omega)
  have h5b : (i0 : Int) < i1 := by omega
  have h6b : (j0 : Int) < j1 := by omega
  rw [lit32 a hd hs]
  generalize get a = g at *
  simp only [g0, g10, h1, h2, h3, h4]
  clear hd hs g0 g10 h1 h2 h3 h4
  have MEM : Hid (M C w dl il s vf vg) := mem
  clear mem
  go_wp2
  go_quiet (fail)
  go_wp2
  exact hQ.out _ _ ⟨rfl, rfl, rfl, rfl⟩ rfl rfl rfl rfl ⟨_, rfl⟩
set_option maxHeartbeats 1000000 in
set_option maxRecDepth 100000 in
theorem t1_no1 {C : C32} {a : Act} {w : World} {dl il : Nat → Bool} {vf vg : Value} {i0 i1 j0 j1 : Nat} {s : Int} {Q : Exit → Act → World → Prop} (sz : Sz2 C) (hF : Fy C a) (h1 : get a 1 = .int .i64 i0) (h2 : get a 2 = .int .i64 i1) (h3 : get a 3 = .int .i64 j0) (h4 : get a 4 = .int .i64 j1) (mem : M C w dl il s vf vg) (hi : i1 ≤ C.la) (hj : j1 ≤ C.lb) (h5 : i1 ≤ i0)
    (hQ : Hid (∀ a' w', Fy C a' → get a' 1 = .int .i64 i0 → get a' 2 = .int .i64 i1 → get a' 3 = .int .i64 j0 → get a' 4 = .int .i64 j1 → (∃ nq, w' = w.drewN nq) → Q (.exit 0) a' w')) :
    Code.wp Try.prog (sub2 [true, false, false, false] (bodyOf Try.f32)) Q a w := by
  conv => arg 2; whnf
  obtain ⟨hd, hs, g0, g10⟩ := hF
  have zla := sz.la
  have zlb := sz.lb
  have c0 := mem.d0
  have c1 := mem.d1
  have hdd : decide (i0 < i1) = false := by simp; omega
  rw [lit32 a hd hs]
  generalize get a = g at *
  simp only [g0, g10, h1, h2, h3, h4]
  clear hd hs g0 g10 h1 h2 h3 h4
  have MEM : Hid (M C w dl il s vf vg) := mem
  clear mem
  go_wp2
  go_quiet (fail)
  go_wp2
  exact hQ.out _ _ ⟨rfl, rfl, rfl, rfl⟩ rfl rfl rfl rfl ⟨_, rfl⟩
set_option maxHeartbeats 1000000 in
set_option maxRecDepth 100000 in
theorem t1_no2 {C : C32} {a : Act} {w : World} {dl il : Nat → Bool} {vf vg : Value} {i0 i1 j0 j1 : Nat} {s : Int} {Q : Exit → Act → World → Prop} (sz : Sz2 C) (hF : Fy C a) (h1 : get a 1 = .int .i64 i0) (h2 : get a 2 = .int .i64 i1) (h3 : get a 3 = .int .i64 j0) (h4 : get a 4 = .int .i64 j1) (mem : M C w dl il s vf vg) (hi : i1 ≤ C.la) (hj : j1 ≤ C.lb) (h5 : i0 < i1) (h6 : j1 ≤ j0)
    (hQ : Hid (∀ a' w', Fy C a' → get a' 1 = .int .i64 i0 → get a' 2 = .int .i64 i1 → get a' 3 = .int .i64 j0 → get a' 4 = .int .i64 j1 → (∃ nq, w' = w.drewN nq) → Q (.exit 0) a' w')) :
    Code.wp Try.prog (sub2 [true, false, false, false] (bodyOf Try.f32)) Q a w := by
  conv => arg 2; whnf
  obtain ⟨hd, hs, g0, g10⟩ := hF
  have zla := sz.la
  have zlb := sz.lb
  have c0 := mem.d0
  have c1 := mem.d1
  have h5b : (i0 : Int) < i1 := by omega
  have hdd : decide (j0 < j1) = false := by simp; omega
  rw [lit32 a hd hs]
  generalize get a = g at *
  simp only [g0, g10, h1, h2, h3, h4]
  clear hd hs g0 g10 h1 h2 h3 h4
  have MEM : Hid (M C w dl il s vf vg) := mem
  clear mem
  go_wp2
  go_quiet (fail)
  go_wp2
  exact hQ.out _ _ ⟨rfl, rfl, rfl, rfl⟩ rfl rfl rfl rfl ⟨_, rfl⟩
set_option maxHeartbeats 1000000 in
set_option maxRecDepth 100000 in
theorem t1_no3 {C : C32} {a : Act} {w : World} {dl il : Nat → Bool} {vf vg : Value} {i0 i1 j0 j1 : Nat} {s : Int} {Q : Exit → Act → World → Prop} (sz : Sz2 C) (hF : Fy C a) (h1 : get a 1 = .int .i64 i0) (h2 : get a 2 = .int .i64 i1) (h3 : get a 3 = .int .i64 j0) (h4 : get a 4 = .int .i64 j1) (mem : M C w dl il s vf vg) (hi : i1 ≤ C.la) (hj : j1 ≤ C.lb) (h5 : i0 < i1) (h6 : j0 < j1) (heq : (C.A i0 == C.B j0) = false)
    (hQ : Hid (∀ a' w', Fy C a' → get a' 1 = .int .i64 i0 → get a' 2 = .int .i64 i1 → get a' 3 = .int .i64 j0 → get a' 4 = .int .i64 j1 → (∃ nq, w' = w.drewN nq) → Q (.exit 0) a' w')) :
    Code.wp Try.prog (sub2 [true, false, false, false] (bodyOf Try.f32)) Q a w := by
  conv => arg 2; whnf
  obtain ⟨hd, hs, g0, g10⟩ := hF
  have zla := sz.la
  have zlb := sz.lb
  have c0 := mem.d0
  have c1 := mem.d1
  rw [sz.va (by omega)] at c0
  rw [sz.vb (by omega)] at c1
  have cA := mem.aa i0 (by omega)
  have cB := mem.bb j0 (by omega)
  have h5b : (i0 : Int) < i1 := by omega
  have h6b : (j0 : Int) < j1 := by omega
  rw [lit32 a hd hs]
  generalize get a = g at *
  simp only [g0, g10, h1, h2, h3, h4]
  clear hd hs g0 g10 h1 h2 h3 h4
  have MEM : Hid (M C w dl il s vf vg) := mem
  clear mem
  go_wp2
  go_quiet (fail)
  go_wp2
  exact hQ.out _ _ ⟨rfl, rfl, rfl, rfl⟩ rfl rfl rfl rfl ⟨_, rfl⟩
set_option maxHeartbeats 1000000 in
set_option maxRecDepth 100000 in
theorem t2_yes {C : C32} {a : Act} {w : World} {dl il : Nat → Bool} {vf vg : Value} {i0 i1 j0 j1 : Nat} {s : Int} {Q : Exit → Act → World → Prop} (sz : Sz2 C) (hF : Fy C a) (h1 : get a 1 = .int .i64 i0) (h2 : get a 2 = .int .i64 i1) (h3 : get a 3 = .int .i64 j0) (h4 : get a 4 = .int .i64 j1) (mem : M C w dl il s vf vg) (hi : i1 ≤ C.la) (hj : j1 ≤ C.lb) (h5 : i0 < i1) (h6 : j0 < j1) (heq : (C.A (i1 - 1) == C.B (j1 - 1)) = true)
    (hQ : Hid (∀ a' w', Fy C a' → get a' 1 = .int .i64 i0 → get a' 2 = .int .i64 ((i1 : Int) - 1) → get a' 3 = .int .i64 j0 → get a' 4 = .int .i64 ((j1 : Int) - 1) → (∃ nq, w' = w.drewN nq) → Q .normal a' w')) :
    Code.wp Try.prog (sub2 [true, true, false, false, false] (bodyOf Try.f32)) Q a w := by
  conv => arg 2; whnf
  obtain ⟨hd, hs, g0, g10⟩ := hF
  have zla := sz.la
  have zlb := sz.lb
  have c0 := mem.d0
  have c1 := mem.d1
  rw [sz.va (by omega)] at c0
  rw [sz.vb (by omega)] at c1
  have cA := mem.aa (i1 - 1) (by omega)
  have cB := mem.bb (j1 - 1) (by omega)
  have h5b : (i0 : Int) < i1 := by omega
  have h6b : (j0 : Int) < j1 := by omega
  rw [lit32 a hd hs]
  generalize get a = g at *
  simp only [g0, g10, h1, h2, h3, h4]
  clear hd hs g0 g10 h1 h2 h3 h4
  have MEM : Hid (M C w dl il s vf vg) := mem
  clear mem
  go_wp2
  go_quiet (fail)
  go_wp2
  exact hQ.out _ _ ⟨rfl, rfl, rfl, rfl⟩ rfl rfl rfl rfl ⟨_, rfl⟩
set_option maxHeartbeats 1000000 in
set_option maxRecDepth 100000 in
theorem t2_no1 {C : C32} {a : Act} {w : World} {dl il : Nat → Bool} {vf vg : Value} {i0 i1 j0 j1 : Nat} {s : Int} {Q : Exit → Act → World → Prop} (sz : Sz2 C) (hF : Fy C a) (h1 : get a 1 = .int .i64 i0) (h2 : get a 2 = .int .i64 i1) (h3 : get a 3 = .int .i64 j0) (h4 : get a 4 = .int .i64 j1) (mem : M C w dl il s vf vg) (hi : i1 ≤ C.la) (hj : j1 ≤ C.lb) (h5 : i1 ≤ i0)
    (hQ : Hid (∀ a' w', Fy C a' → get a' 1 = .int .i64 i0 → get a' 2 = .int .i64 i1 → get a' 3 = .int .i64 j0 → get a' 4 = .int .i64 j1 → (∃ nq, w' = w.drewN nq) → Q (.exit 2) a' w')) :
    Code.wp Try.prog (sub2 [true, true, false, false, false] (bodyOf Try.f32)) Q a w := by
  conv => arg 2; whnf
  obtain ⟨hd, hs, g0, g10⟩ := hF
  have zla := sz.la
  have zlb := sz.lb
  have c0 := mem.d0
  have c1 := mem.d1
  have hdd : decide (i0 < i1) = false := by simp; omega
  rw [lit32 a hd hs]
  generalize get a = g at *
  simp only [g0, g10, h1, h2, h3, h4]
  clear hd hs g0 g10 h1 h2 h3 h4
  have MEM : Hid (M C w dl il s vf vg) := mem
  clear mem
  go_wp2
  go_quiet (fail)
  go_wp2
  exact hQ.out _ _ ⟨rfl, rfl, rfl, rfl⟩ rfl rfl rfl rfl ⟨_, rfl⟩
set_option maxHeartbeats 1000000 in
set_option maxRecDepth 100000 in
theorem t2_no2 {C : C32} {a : Act} {w : World} {dl il : Nat → Bool} {vf vg : Value} {i0 i1 j0 j1 : Nat} {s : Int} {Q : Exit → Act → World → Prop} (sz : Sz2 C) (hF : Fy C a) (h1 : get a 1 = .int .i64 i0) (h2 : get a 2 = .int .i64 i1) (h3 : get a 3 = .int .i64 j0) (h4 : get a 4 = .int .i64 j1) (mem : M C w dl il s vf vg) (hi : i1 ≤ C.la) (hj : j1 ≤ C.lb) (h5 : i0 < i1) (h6 : j1 ≤ j0)
    (hQ : Hid (∀ a' w', Fy C a' → get a' 1 = .int .i64 i0 → get a' 2 = .int .i64 i1 → get a' 3 = .int .i64 j0 → get a' 4 = .int .i64 j1 → (∃ nq, w' = w.drewN nq) → Q (.exit 2) a' w')) :
    Code.wp Try.prog (sub2 [true, true, false, false, false] (bodyOf Try.f32)) Q a w := by
  conv => arg 2; whnf
  obtain ⟨hd, hs, g0, g10⟩ := hF
  have zla := sz.la
  have zlb := sz.lb
  have c0 := mem.d0
  have c1 := mem.d1
  have h5b : (i0 : Int) < i1 := by omega
  have hdd : decide (j0 < j1) = false := by simp; omega
  rw [lit32 a hd hs]
  generalize get a = g at *
  simp only [g0, g10, h1, h2, h3, h4]
  clear hd hs g0 g10 h1 h2 h3 h4
  have MEM : Hid (M C w dl il s vf vg) := mem
  clear mem
  go_wp2
  go_quiet (fail)
  go_wp2
  exact hQ.out _ _ ⟨rfl, rfl, rfl, rfl⟩ rfl rfl rfl rfl ⟨_, rfl⟩
set_option maxHeartbeats 1000000 in
set_option maxRecDepth 100000 in
theorem t2_no3 {C : C32} {a : Act} {w : World} {dl il : Nat → Bool} {vf vg : Value} {i0 i1 j0 j1 : Nat} {s : Int} {Q : Exit → Act → World → Prop} (sz : Sz2 C) (hF : Fy C a) (h1 : get a 1 = .int .i64 i0) (h2 : get a 2 = .int .i64 i1) (h3 : get a 3 = .int .i64 j0) (h4 : get a 4 = .int .i64 j1) (mem : M C w dl il s vf vg) (hi : i1 ≤ C.la) (hj : j1 ≤ C.lb) (h5 : i0 < i1) (h6 : j0 < j1) (heq : (C.A (i1 - 1) == C.B (j1 - 1)) = false)
    (hQ : Hid (∀ a' w', Fy C a' → get a' 1 = .int .i64 i0 → get a' 2 = .int .i64 i1 → get a' 3 = .int .i64 j0 → get a' 4 = .int .i64 j1 → (∃ nq, w' = w.drewN nq) → Q (.exit 2) a' w')) :
    Code.wp Try.prog (sub2 [true, true, false, false, false] (bodyOf Try.f32)) Q a w := by
  conv => arg 2; whnf
  obtain ⟨hd, hs, g0, g10⟩ := hF
  have zla := sz.la
  have zlb := sz.lb
  have c0 := mem.d0
  have c1 := mem.d1
  rw [sz.va (by omega)] at c0
  rw [sz.vb (by omega)] at c1
  have cA := mem.aa (i1 - 1) (by omega)
  have cB := mem.bb (j1 - 1) (by omega)
  have h5b : (i0 : Int) < i1 := by omega
  have h6b : (j0 : Int) < j1 := by omega
  rw [lit32 a hd hs]
  generalize get a = g at *
  simp only [g0, g10, h1, h2, h3, h4]
  clear hd hs g0 g10 h1 h2 h3 h4
  have MEM : Hid (M C w dl il s vf vg) := mem
  clear mem
  go_wp2
  go_quiet (fail)
  go_wp2
  exact hQ.out _ _ ⟨rfl, rfl, rfl, rfl⟩ rfl rfl rfl rfl ⟨_, rfl⟩
set_option maxHeartbeats 1000000 in
set_option maxRecDepth 100000 in
theorem p5_eq1 {C : C32} {a : Act} {w : World} {i0 i1 j0 j1 : Nat} {Q : Exit → Act → World → Prop} (sz : Sz2 C) (hF : Fy C a) (h1 : get a 1 = .int .i64 i0) (h2 : get a 2 = .int .i64 i1) (h3 : get a 3 = .int .i64 j0) (h4 : get a 4 = .int .i64 j1) (h5 : i0 = i1)
    (hQ : Hid (∀ a', Fy C a' → get a' 1 = .int .i64 i0 → get a' 2 = .int .i64 i1 → get a' 3 = .int .i64 j0 → get a' 4 = .int .i64 j1 → get a' 86 = .bool true → Q .normal a' w)) :
    Code.wp Try.prog (sub2 [true, true, true, false, false] (bodyOf Try.f32)) Q a w := by
  conv => arg 2; whnf
  obtain ⟨hd, hs, g0, g10⟩ := hF
  have hb : ((i0 : Int) == i1) = true := by rw [beq_iff_eq]; omega
  clear h5
  rw [lit32 a hd hs]
  generalize get a = g at *
  simp only [g0, g10, h1, h2, h3, h4]
  clear hd hs g0 g10 h1 h2 h3 h4
  go_wp2
  exact hQ.out _ ⟨rfl, rfl, rfl, rfl⟩ rfl rfl rfl rfl rfl
set_option maxHeartbeats 1000000 in
set_option maxRecDepth 100000 in
theorem p5_eq2 {C : C32} {a : Act} {w : World} {i0 i1 j0 j1 : Nat} {Q : Exit → Act → World → Prop} (sz : Sz2 C) (hF : Fy C a) (h1 : get a 1 = .int .i64 i0) (h2 : get a 2 = .int .i64 i1) (h3 : get a 3 = .int .i64 j0) (h4 : get a 4 = .int .i64 j1) (h5 : i0 < i1) (h6 : j0 = j1)
    (hQ : Hid (∀ a', Fy C a' → get a' 1 = .int .i64 i0 → get a' 2 = .int .i64 i1 → get a' 3 = .int .i64 j0 → get a' 4 = .int .i64 j1 → get a' 86 = .bool true → Q .normal a' w)) :
    Code.wp Try.prog (sub2 [true, true, true, false, false] (bodyOf Try.f32)) Q a w := by
  conv => arg 2; whnf
  obtain ⟨hd, hs, g0, g10⟩ := hF
  have hb : ((i0 : Int) == i1) = false := by rw [beq_eq_false_iff_ne]; omega
  have hb2 : ((j0 : Int) == j1) = true := by rw [beq_iff_eq]; omega
  clear h6
  rw [lit32 a hd hs]
  generalize get a = g at *
  simp only [g0, g10, h1, h2, h3, h4]
  clear hd hs g0 g10 h1 h2 h3 h4
  go_wp2
  exact hQ.out _ ⟨rfl, rfl, rfl, rfl⟩ rfl rfl rfl rfl rfl
set_option maxHeartbeats 1000000 in
set_option maxRecDepth 100000 in
theorem p5_ne {C : C32} {a : Act} {w : World} {i0 i1 j0 j1 : Nat} {Q : Exit → Act → World → Prop} (sz : Sz2 C) (hF : Fy C a) (h1 : get a 1 = .int .i64 i0) (h2 : get a 2 = .int .i64 i1) (h3 : get a 3 = .int .i64 j0) (h4 : get a 4 = .int .i64 j1) (h5 : i0 < i1) (h6 : j0 < j1)
    (hQ : Hid (∀ a', Fy C a' → get a' 1 = .int .i64 i0 → get a' 2 = .int .i64 i1 → get a' 3 = .int .i64 j0 → get a' 4 = .int .i64 j1 → get a' 86 = .bool false → Q .normal a' w)) :
    Code.wp Try.prog (sub2 [true, true, true, false, false] (bodyOf Try.f32)) Q a w := by
  conv => arg 2; whnf
  obtain ⟨hd, hs, g0, g10⟩ := hF
  have hb : ((i0 : Int) == i1) = false := by rw [beq_eq_false_iff_ne]; omega
  have hb2 : ((j0 : Int) == j1) = false := by rw [beq_eq_false_iff_ne]; omega
  rw [lit32 a hd hs]
  generalize get a = g at *
  simp only [g0, g10, h1, h2, h3, h4]
  clear hd hs g0 g10 h1 h2 h3 h4
  go_wp2
  exact hQ.out _ ⟨rfl, rfl, rfl, rfl⟩ rfl rfl rfl rfl rfl
set_option maxHeartbeats 1000000 in
set_option maxRecDepth 100000 in
theorem p6 {C : C32} {a : Act} {w : World} {i0 i1 j0 j1 : Nat} {Q : Exit → Act → World → Prop} (sz : Sz2 C) (hF : Fy C a) (h1 : get a 1 = .int .i64 i0) (h2 : get a 2 = .int .i64 i1) (h3 : get a 3 = .int .i64 j0) (h4 : get a 4 = .int .i64 j1) 
    (hQ : Hid (∀ a', Fy C a' → get a' 1 = .int .i64 i0 → get a' 2 = .int .i64 i1 → get a' 3 = .int .i64 j0 → get a' 4 = .int .i64 j1 → get a' 11 = .int .i64 i0 → Q .normal a' w)) :
    Code.wp Try.prog (sub2 [true, true, true, false, true, false, false, false] (bodyOf Try.f32)) Q a w := by
  conv => arg 2; whnf
  obtain ⟨hd, hs, g0, g10⟩ := hF
  rw [lit32 a hd hs]
  generalize get a = g at *
  simp only [g0, g10, h1, h2, h3, h4]
  clear hd hs g0 g10 h1 h2 h3 h4
  go_wp2
  exact hQ.out _ ⟨rfl, rfl, rfl, rfl⟩ rfl rfl rfl rfl rfl
set_option maxHeartbeats 1000000 in
set_option maxRecDepth 100000 in
theorem m3_in {C : C32} {a : Act} {w : World} {dl il : Nat → Bool} {vf vg : Value} {i0 i1 j0 j1 i : Nat} {s : Int} {Q : Exit → Act → World → Prop} (sz : Sz2 C) (hF : Fy C a) (h1 : get a 1 = .int .i64 i0) (h2 : get a 2 = .int .i64 i1) (h3 : get a 3 = .int .i64 j0) (h4 : get a 4 = .int .i64 j1) (h11 : get a 11 = .int .i64 i) (mem : M C w dl il s vf vg) (hi : i < i1) (hla : i1 ≤ C.la)
    (hQ : Hid (∀ a', Fy C a' → get a' 1 = .int .i64 i0 → get a' 2 = .int .i64 i1 → get a' 3 = .int .i64 j0 → get a' 4 = .int .i64 j1 → get a' 11 = .int .i64 ((i : Int) + 1) → Q .normal a' (w.setCell ⟨C.db, i, none⟩ (.bool true)))) :
    Code.wp Try.prog (sub2 [true, true, true, false, true, false, false, true, false, false] (bodyOf Try.f32)) Q a w := by
  conv => arg 2; whnf
  obtain ⟨hd, hs, g0, g10⟩ := hF
  have zla := sz.la
  have c2 := mem.d2
  have cd := mem.del i (by omega)
  have cz := mem.vfz i
  have hib : (i : Int) < i1 := by omega
  clear mem
  rw [lit32 a hd hs]
  generalize get a = g at *
  simp only [g0, g10, h1, h2, h3, h4, h11]
  clear hd hs g0 g10 h1 h2 h3 h4 h11
  go_wp2
  exact hQ.out _ ⟨rfl, rfl, rfl, rfl⟩ rfl rfl rfl rfl rfl
set_option maxHeartbeats 1000000 in
set_option maxRecDepth 100000 in
theorem m3_out {C : C32} {a : Act} {w : World} {i0 i1 j0 j1 i : Nat} {Q : Exit → Act → World → Prop} (sz : Sz2 C) (hF : Fy C a) (h1 : get a 1 = .int .i64 i0) (h2 : get a 2 = .int .i64 i1) (h3 : get a 3 = .int .i64 j0) (h4 : get a 4 = .int .i64 j1) (h11 : get a 11 = .int .i64 i) (hi : i1 ≤ i)
    (hQ : Hid (∀ a', Fy C a' → get a' 1 = .int .i64 i0 → get a' 2 = .int .i64 i1 → get a' 3 = .int .i64 j0 → get a' 4 = .int .i64 j1 → Q (.exit 4) a' w)) :
    Code.wp Try.prog (sub2 [true, true, true, false, true, false, false, true, false, false] (bodyOf Try.f32)) Q a w := by
  conv => arg 2; whnf
  obtain ⟨hd, hs, g0, g10⟩ := hF
  have hib : (i1 : Int) ≤ i := by omega
  rw [lit32 a hd hs]
  generalize get a = g at *
  simp only [g0, g10, h1, h2, h3, h4, h11]
  clear hd hs g0 g10 h1 h2 h3 h4 h11
  go_wp2
  exact hQ.out _ ⟨rfl, rfl, rfl, rfl⟩ rfl rfl rfl rfl
set_option maxHeartbeats 1000000 in
set_option maxRecDepth 100000 in
theorem p10 {C : C32} {a : Act} {w : World} {i0 i1 j0 j1 : Nat} {Q : Exit → Act → World → Prop} (sz : Sz2 C) (hF : Fy C a) (h1 : get a 1 = .int .i64 i0) (h2 : get a 2 = .int .i64 i1) (h3 : get a 3 = .int .i64 j0) (h4 : get a 4 = .int .i64 j1) 
    (hQ : Hid (∀ a', Fy C a' → get a' 1 = .int .i64 i0 → get a' 2 = .int .i64 i1 → get a' 3 = .int .i64 j0 → get a' 4 = .int .i64 j1 → get a' 12 = .int .i64 j0 → Q .normal a' w)) :
    Code.wp Try.prog (sub2 [true, true, true, false, true, false, true, false, false] (bodyOf Try.f32)) Q a w := by
  conv => arg 2; whnf
  obtain ⟨hd, hs, g0, g10⟩ := hF
  rw [lit32 a hd hs]
  generalize get a = g at *
  simp only [g0, g10, h1, h2, h3, h4]
  clear hd hs g0 g10 h1 h2 h3 h4
  go_wp2
  exact hQ.out _ ⟨rfl, rfl, rfl, rfl⟩ rfl rfl rfl rfl rfl
set_option maxHeartbeats 1000000 in
set_option maxRecDepth 100000 in
theorem m4_in {C : C32} {a : Act} {w : World} {dl il : Nat → Bool} {vf vg : Value} {i0 i1 j0 j1 j : Nat} {s : Int} {Q : Exit → Act → World → Prop} (sz : Sz2 C) (hF : Fy C a) (h1 : get a 1 = .int .i64 i0) (h2 : get a 2 = .int .i64 i1) (h3 : get a 3 = .int .i64 j0) (h4 : get a 4 = .int .i64 j1) (h12 : get a 12 = .int .i64 j) (mem : M C w dl il s vf vg) (hj : j < j1) (hlb : j1 ≤ C.lb)
    (hQ : Hid (∀ a', Fy C a' → get a' 1 = .int .i64 i0 → get a' 2 = .int .i64 i1 → get a' 3 = .int .i64 j0 → get a' 4 = .int .i64 j1 → get a' 12 = .int .i64 ((j : Int) + 1) → Q .normal a' (w.setCell ⟨C.ib, j, none⟩ (.bool true)))) :
    Code.wp Try.prog (sub2 [true, true, true, false, true, false, true, false, true, false, false] (bodyOf Try.f32)) Q a w := by
  conv => arg 2; whnf
  obtain ⟨hd, hs, g0, g10⟩ := hF
  have zlb := sz.lb
  have c3 := mem.d3
  have cd := mem.ins j (by omega)
  have cz := mem.wfz j
  have hjb : (j : Int) < j1 := by omega
  clear mem
  rw [lit32 a hd hs]
  generalize get a = g at *
  simp only [g0, g10, h1, h2, h3, h4, h12]
  clear hd hs g0 g10 h1 h2 h3 h4 h12
  go_wp2
  exact hQ.out _ ⟨rfl, rfl, rfl, rfl⟩ rfl rfl rfl rfl rfl
set_option maxHeartbeats 1000000 in
set_option maxRecDepth 100000 in
theorem m4_out {C : C32} {a : Act} {w : World} {i0 i1 j0 j1 j : Nat} {Q : Exit → Act → World → Prop} (sz : Sz2 C) (hF : Fy C a) (h1 : get a 1 = .int .i64 i0) (h2 : get a 2 = .int .i64 i1) (h3 : get a 3 = .int .i64 j0) (h4 : get a 4 = .int .i64 j1) (h12 : get a 12 = .int .i64 j) (hj : j1 ≤ j)
    (hQ : Hid (∀ a', Fy C a' → get a' 1 = .int .i64 i0 → get a' 2 = .int .i64 i1 → get a' 3 = .int .i64 j0 → get a' 4 = .int .i64 j1 → Q (.exit 6) a' w)) :
    Code.wp Try.prog (sub2 [true, true, true, false, true, false, true, false, true, false, false] (bodyOf Try.f32)) Q a w := by
  conv => arg 2; whnf
  obtain ⟨hd, hs, g0, g10⟩ := hF
  have hjb : (j1 : Int) ≤ j := by omega
  rw [lit32 a hd hs]
  generalize get a = g at *
  simp only [g0, g10, h1, h2, h3, h4, h12]
  clear hd hs g0 g10 h1 h2 h3 h4 h12
  go_wp2
  exact hQ.out _ ⟨rfl, rfl, rfl, rfl⟩ rfl rfl rfl rfl
set_option maxHeartbeats 1000000 in
set_option maxRecDepth 100000 in
theorem p14 {C : C32} {a : Act} {w : World} {i0 i1 j0 j1 : Nat} {Q : Exit → Act → World → Prop} (sz : Sz2 C) (hF : Fy C a) (h1 : get a 1 = .int .i64 i0) (h2 : get a 2 = .int .i64 i1) (h3 : get a 3 = .int .i64 j0) (h4 : get a 4 = .int .i64 j1) 
    (hQ : Hid (∀ a', a'.defers = [] → get a' 10 = .bool true → Q .ret a' w)) :
    Code.wp Try.prog (sub2 [true, true, true, false, true, false, true, true] (bodyOf Try.f32)) Q a w := by
  conv => arg 2; whnf
  obtain ⟨hd, hs, g0, g10⟩ := hF
  rw [lit32 a hd hs]
  generalize get a = g at *
  simp only [g0, g10, h1, h2, h3, h4]
  clear hd hs g0 g10 h1 h2 h3 h4
  go_wp2
  exact hQ.out _ rfl rfl
set_option maxHeartbeats 1000000 in
set_option maxRecDepth 100000 in
theorem p15_al {C : C32} {a : Act} {w : World} {dl il : Nat → Bool} {vg : Value} {i0 i1 j0 j1 fb N : Nat} {s : Int} {Q : Exit → Act → World → Prop} (sz : Sz2 C) (hF : Fy C a) (h1 : get a 1 = .int .i64 i0) (h2 : get a 2 = .int .i64 i1) (h3 : get a 3 = .int .i64 j0) (h4 : get a 4 = .int .i64 j1) (mem : M C w dl il s (.slice (some ⟨fb, 0, none⟩) N N) vg)
    (hQ : Hid (∀ a', Fy C a' → get a' 1 = .int .i64 i0 → get a' 2 = .int .i64 i1 → get a' 3 = .int .i64 j0 → get a' 4 = .int .i64 j1 → Q .normal a' w)) :
    Code.wp Try.prog (sub2 [true, true, true, true, false] (bodyOf Try.f32)) Q a w := by
  conv => arg 2; whnf
  obtain ⟨hd, hs, g0, g10⟩ := hF
  have c4 := mem.d4
  have hq := nil40
  clear mem
  rw [lit32 a hd hs]
  generalize get a = g at *
  simp only [g0, g10, h1, h2, h3, h4]
  clear hd hs g0 g10 h1 h2 h3 h4
  go_wp2
  exact hQ.out _ ⟨rfl, rfl, rfl, rfl⟩ rfl rfl rfl rfl
end Go.Proofs.Qxb6601687a
