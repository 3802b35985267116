/-
  zzIsShortestScript (function 15): the pieces.
-/
import Derived.Test.Qxb6601687aLawD
import Derived.Test.Qxb6601687aLcsB
import Derived.Test.Qxb6601687aScript
import Derived.Deep.RegionWith
namespace Go.Proofs.Qxb6601687a
open Go.RowKit
set_option linter.unusedVariables false
set_option linter.unusedSimpArgs false

set_option maxRecDepth 100000 in
theorem lit15 (a : Act) (hd : a.defers = []) (hs : a.tmps.size = 130) : a = ⟨#[get a 0, get a 1, get a 2, get a 3, get a 4, get a 5, get a 6, get a 7, get a 8, get a 9, get a 10, get a 11, get a 12, get a 13, get a 14, get a 15, get a 16, get a 17, get a 18, get a 19, get a 20, get a 21, get a 22, get a 23, get a 24, get a 25, get a 26, get a 27, get a 28, get a 29, get a 30, get a 31, get a 32, get a 33, get a 34, get a 35, get a 36, get a 37, get a 38, get a 39, get a 40, get a 41, get a 42, get a 43, get a 44, get a 45, get a 46, get a 47, get a 48, get a 49, get a 50, get a 51, get a 52, get a 53, get a 54, get a 55, get a 56, get a 57, get a 58, get a 59, get a 60, get a 61, get a 62, get a 63, get a 64, get a 65, get a 66, get a 67, get a 68, get a 69, get a 70, get a 71, get a 72, get a 73, get a 74, get a 75, get a 76, get a 77, get a 78, get a 79, get a 80, get a 81, get a 82, get a 83, get a 84, get a 85, get a 86, get a 87, get a 88, get a 89, get a 90, get a 91, get a 92, get a 93, get a 94, get a 95, get a 96, get a 97, get a 98, get a 99, get a 100, get a 101, get a 102, get a 103, get a 104, get a 105, get a 106, get a 107, get a 108, get a 109, get a 110, get a 111, get a 112, get a 113, get a 114, get a 115, get a 116, get a 117, get a 118, get a 119, get a 120, get a 121, get a 122, get a 123, get a 124, get a 125, get a 126, get a 127, get a 128, get a 129], []⟩ := act_eq a 130 hd hs

structure Y15 where
  (aa ba : Option Addr)
  (ab bb db ib la lb i0 i1 j0 j1 : Nat)
  (A B : Nat → Int)
  (dl il : Nat → Bool)

structure F15 (Y : Y15) (a : Act) : Prop where
  d : a.defers = []
  s : a.tmps.size = 130
  g0 : get a 0 = .slice Y.aa Y.la Y.la
  g1 : get a 1 = .slice Y.ba Y.lb Y.lb
  g2 : get a 2 = .slice (some ⟨Y.db, 0, none⟩) Y.la Y.la
  g3 : get a 3 = .slice (some ⟨Y.ib, 0, none⟩) Y.lb Y.lb
  g4 : get a 4 = .int .i64 (Y.i0 : Int)
  g5 : get a 5 = .int .i64 (Y.i1 : Int)
  g6 : get a 6 = .int .i64 (Y.j0 : Int)
  g7 : get a 7 = .int .i64 (Y.j1 : Int)

structure M15 (Y : Y15) (w : World) : Prop where
  la : Y.la ≤ 1024
  lb : Y.lb ≤ 1024
  i0 : Y.i0 ≤ Y.i1
  i1 : Y.i1 ≤ Y.la
  j0 : Y.j0 ≤ Y.j1
  j1 : Y.j1 ≤ Y.lb
  a_ : (Y.aa = none ∧ Y.la = 0) ∨ Y.aa = some ⟨Y.ab, 0, none⟩
  b_ : (Y.ba = none ∧ Y.lb = 0) ∨ Y.ba = some ⟨Y.bb, 0, none⟩
  ia : In w Y.ab Y.la Y.A
  ib : In w Y.bb Y.lb Y.B
  dv : ∀ i, i < Y.la → w.cell? ⟨Y.db, i, none⟩ = some (.bool (Y.dl i))
  iv : ∀ i, i < Y.lb → w.cell? ⟨Y.ib, i, none⟩ = some (.bool (Y.il i))
theorem M15.drewN {Y w} (h : M15 Y w) (q : Nat) : M15 Y (w.drewN q) := ⟨h.la, h.lb, h.i0, h.i1, h.j0, h.j1, h.a_, h.b_, ⟨h.ia.cells, h.ia.lt⟩, ⟨h.ib.cells, h.ib.lt⟩, h.dv, h.iv⟩

/-- an ordinary end alone -/
@[reducible] def Nm (K : Act → World → Prop) : Exit → Act → World → Prop
  | .normal, a, w => K a w
  | _, _, _ => False

set_option maxHeartbeats 1000000 in
set_option maxRecDepth 100000 in
theorem u0 {Y : Y15} {a : Act} {w : World} {Q : Exit → Act → World → Prop} (hF : F15 Y a)  (mem : M15 Y w) 
    (hQ : Hid (∀ a', F15 Y a' → Q .normal a' w)) :
    Code.wp Try.prog (sub2 [false] (bodyOf Try.f15)) Q a w := by
  conv => arg 2; whnf
  obtain ⟨hd, hs, g0, g1, g2, g3, g4, g5, g6, g7⟩ := hF
  have zla := mem.la
  have zlb := mem.lb
  have zi1 := mem.i1
  have zj1 := mem.j1
  have MEM : Hid (M15 Y w) := mem
  clear mem
  rw [lit15 a hd hs]
  generalize get a = g at *
  simp only [g0, g1, g2, g3, g4, g5, g6, g7]
  clear hd hs g0 g1 g2 g3 g4 g5 g6 g7
  go_wp2
  exact hQ.out _ ⟨rfl, rfl, rfl, rfl, rfl, rfl, rfl, rfl, rfl, rfl⟩ 
set_option maxHeartbeats 1000000 in
set_option maxRecDepth 100000 in
theorem u1 {Y : Y15} {a : Act} {w : World} {Q : Exit → Act → World → Prop} (hF : F15 Y a)  (mem : M15 Y w) 
    (hQ : Hid (∀ a', F15 Y a' → get a' 17 = .int .i64 0 → Q .normal a' w)) :
    Code.wp Try.prog (sub2 [true, false, false] (bodyOf Try.f15)) Q a w := by
  conv => arg 2; whnf
  obtain ⟨hd, hs, g0, g1, g2, g3, g4, g5, g6, g7⟩ := hF
  have zla := mem.la
  have zlb := mem.lb
  have zi1 := mem.i1
  have zj1 := mem.j1
  have MEM : Hid (M15 Y w) := mem
  clear mem
  rw [lit15 a hd hs]
  generalize get a = g at *
  simp only [g0, g1, g2, g3, g4, g5, g6, g7]
  clear hd hs g0 g1 g2 g3 g4 g5 g6 g7
  go_wp2
  exact hQ.out _ ⟨rfl, rfl, rfl, rfl, rfl, rfl, rfl, rfl, rfl, rfl⟩ rfl
set_option maxHeartbeats 1000000 in
set_option maxRecDepth 100000 in
theorem u2_off {Y : Y15} {a : Act} {w : World} {k : Nat} {Q : Exit → Act → World → Prop} (hF : F15 Y a) (h17 : get a 17 = .int .i64 (k : Int)) (mem : M15 Y w) (h : k < Y.la) (hc : Y.dl k = false)
    (hQ : Hid (∀ a', F15 Y a' → get a' 17 = .int .i64 ((k : Int) + 1) → Q .normal a' w)) :
    Code.wp Try.prog (sub2 [true, false, true, false, false] (bodyOf Try.f15)) Q a w := by
  conv => arg 2; whnf
  obtain ⟨hd, hs, g0, g1, g2, g3, g4, g5, g6, g7⟩ := hF
  have zla := mem.la
  have zlb := mem.lb
  have zi1 := mem.i1
  have zj1 := mem.j1
  have MEM : Hid (M15 Y w) := mem
  have cv := mem.dv (k) (by omega)
  rw [hc] at cv
  have hh : (k : Int) < Y.la := by omega
  clear mem
  rw [lit15 a hd hs]
  generalize get a = g at *
  simp only [g0, g1, g2, g3, g4, g5, g6, g7, h17]
  clear hd hs g0 g1 g2 g3 g4 g5 g6 g7 h17
  go_wp2
  exact hQ.out _ ⟨rfl, rfl, rfl, rfl, rfl, rfl, rfl, rfl, rfl, rfl⟩ rfl
set_option maxHeartbeats 1000000 in
set_option maxRecDepth 100000 in
theorem u2_on {Y : Y15} {a : Act} {w : World} {k : Nat} {Q : Exit → Act → World → Prop} (hF : F15 Y a) (h17 : get a 17 = .int .i64 (k : Int)) (mem : M15 Y w) (h : k < Y.la) (hc : Y.dl k = true) (hl : Y.i0 ≤ k) (hr : k < Y.i1)
    (hQ : Hid (∀ a', F15 Y a' → get a' 17 = .int .i64 ((k : Int) + 1) → Q .normal a' w)) :
    Code.wp Try.prog (sub2 [true, false, true, false, false] (bodyOf Try.f15)) Q a w := by
  conv => arg 2; whnf
  obtain ⟨hd, hs, g0, g1, g2, g3, g4, g5, g6, g7⟩ := hF
  have zla := mem.la
  have zlb := mem.lb
  have zi1 := mem.i1
  have zj1 := mem.j1
  have MEM : Hid (M15 Y w) := mem
  have cv := mem.dv (k) (by omega)
  rw [hc] at cv
  have hh : (k : Int) < Y.la := by omega
  have hh1 : (Y.i0 : Int) ≤ k := by omega
  have hh2 : (k : Int) < Y.i1 := by omega
  clear mem
  rw [lit15 a hd hs]
  generalize get a = g at *
  simp only [g0, g1, g2, g3, g4, g5, g6, g7, h17]
  clear hd hs g0 g1 g2 g3 g4 g5 g6 g7 h17
  go_wp2
  exact hQ.out _ ⟨rfl, rfl, rfl, rfl, rfl, rfl, rfl, rfl, rfl, rfl⟩ rfl
set_option maxHeartbeats 1000000 in
set_option maxRecDepth 100000 in
theorem u2_out {Y : Y15} {a : Act} {w : World} {k : Nat} {Q : Exit → Act → World → Prop} (hF : F15 Y a) (h17 : get a 17 = .int .i64 (k : Int)) (mem : M15 Y w) (h : Y.la ≤ k)
    (hQ : Hid (∀ a', F15 Y a' → Q (.exit 0) a' w)) :
    Code.wp Try.prog (sub2 [true, false, true, false, false] (bodyOf Try.f15)) Q a w := by
  conv => arg 2; whnf
  obtain ⟨hd, hs, g0, g1, g2, g3, g4, g5, g6, g7⟩ := hF
  have zla := mem.la
  have zlb := mem.lb
  have zi1 := mem.i1
  have zj1 := mem.j1
  have MEM : Hid (M15 Y w) := mem
  have hh : (Y.la : Int) ≤ k := by omega
  clear mem
  rw [lit15 a hd hs]
  generalize get a = g at *
  simp only [g0, g1, g2, g3, g4, g5, g6, g7, h17]
  clear hd hs g0 g1 g2 g3 g4 g5 g6 g7 h17
  go_wp2
  exact hQ.out _ ⟨rfl, rfl, rfl, rfl, rfl, rfl, rfl, rfl, rfl, rfl⟩ 
set_option maxHeartbeats 1000000 in
set_option maxRecDepth 100000 in
theorem u6 {Y : Y15} {a : Act} {w : World} {Q : Exit → Act → World → Prop} (hF : F15 Y a)  (mem : M15 Y w) 
    (hQ : Hid (∀ a', F15 Y a' → get a' 18 = .int .i64 0 → Q .normal a' w)) :
    Code.wp Try.prog (sub2 [true, true, false, false] (bodyOf Try.f15)) Q a w := by
  conv => arg 2; whnf
  obtain ⟨hd, hs, g0, g1, g2, g3, g4, g5, g6, g7⟩ := hF
  have zla := mem.la
  have zlb := mem.lb
  have zi1 := mem.i1
  have zj1 := mem.j1
  have MEM : Hid (M15 Y w) := mem
  clear mem
  rw [lit15 a hd hs]
  generalize get a = g at *
  simp only [g0, g1, g2, g3, g4, g5, g6, g7]
  clear hd hs g0 g1 g2 g3 g4 g5 g6 g7
  go_wp2
  exact hQ.out _ ⟨rfl, rfl, rfl, rfl, rfl, rfl, rfl, rfl, rfl, rfl⟩ rfl
set_option maxHeartbeats 1000000 in
set_option maxRecDepth 100000 in
theorem u7_off {Y : Y15} {a : Act} {w : World} {k : Nat} {Q : Exit → Act → World → Prop} (hF : F15 Y a) (h18 : get a 18 = .int .i64 (k : Int)) (mem : M15 Y w) (h : k < Y.lb) (hc : Y.il k = false)
    (hQ : Hid (∀ a', F15 Y a' → get a' 18 = .int .i64 ((k : Int) + 1) → Q .normal a' w)) :
    Code.wp Try.prog (sub2 [true, true, false, true, false, false] (bodyOf Try.f15)) Q a w := by
  conv => arg 2; whnf
  obtain ⟨hd, hs, g0, g1, g2, g3, g4, g5, g6, g7⟩ := hF
  have zla := mem.la
  have zlb := mem.lb
  have zi1 := mem.i1
  have zj1 := mem.j1
  have MEM : Hid (M15 Y w) := mem
  have cv := mem.iv (k) (by omega)
  rw [hc] at cv
  have hh : (k : Int) < Y.lb := by omega
  clear mem
  rw [lit15 a hd hs]
  generalize get a = g at *
  simp only [g0, g1, g2, g3, g4, g5, g6, g7, h18]
  clear hd hs g0 g1 g2 g3 g4 g5 g6 g7 h18
  go_wp2
  exact hQ.out _ ⟨rfl, rfl, rfl, rfl, rfl, rfl, rfl, rfl, rfl, rfl⟩ rfl
set_option maxHeartbeats 1000000 in
set_option maxRecDepth 100000 in
theorem u7_on {Y : Y15} {a : Act} {w : World} {k : Nat} {Q : Exit → Act → World → Prop} (hF : F15 Y a) (h18 : get a 18 = .int .i64 (k : Int)) (mem : M15 Y w) (h : k < Y.lb) (hc : Y.il k = true) (hl : Y.j0 ≤ k) (hr : k < Y.j1)
    (hQ : Hid (∀ a', F15 Y a' → get a' 18 = .int .i64 ((k : Int) + 1) → Q .normal a' w)) :
    Code.wp Try.prog (sub2 [true, true, false, true, false, false] (bodyOf Try.f15)) Q a w := by
  conv => arg 2; whnf
  obtain ⟨hd, hs, g0, g1, g2, g3, g4, g5, g6, g7⟩ := hF
  have zla := mem.la
  have zlb := mem.lb
  have zi1 := mem.i1
  have zj1 := mem.j1
  have MEM : Hid (M15 Y w) := mem
  have cv := mem.iv (k) (by omega)
  rw [hc] at cv
  have hh : (k : Int) < Y.lb := by omega
  have hh1 : (Y.j0 : Int) ≤ k := by omega
  have hh2 : (k : Int) < Y.j1 := by omega
  clear mem
  rw [lit15 a hd hs]
  generalize get a = g at *
  simp only [g0, g1, g2, g3, g4, g5, g6, g7, h18]
  clear hd hs g0 g1 g2 g3 g4 g5 g6 g7 h18
  go_wp2
  exact hQ.out _ ⟨rfl, rfl, rfl, rfl, rfl, rfl, rfl, rfl, rfl, rfl⟩ rfl
set_option maxHeartbeats 1000000 in
set_option maxRecDepth 100000 in
theorem u7_out {Y : Y15} {a : Act} {w : World} {k : Nat} {Q : Exit → Act → World → Prop} (hF : F15 Y a) (h18 : get a 18 = .int .i64 (k : Int)) (mem : M15 Y w) (h : Y.lb ≤ k)
    (hQ : Hid (∀ a', F15 Y a' → Q (.exit 2) a' w)) :
    Code.wp Try.prog (sub2 [true, true, false, true, false, false] (bodyOf Try.f15)) Q a w := by
  conv => arg 2; whnf
  obtain ⟨hd, hs, g0, g1, g2, g3, g4, g5, g6, g7⟩ := hF
  have zla := mem.la
  have zlb := mem.lb
  have zi1 := mem.i1
  have zj1 := mem.j1
  have MEM : Hid (M15 Y w) := mem
  have hh : (Y.lb : Int) ≤ k := by omega
  clear mem
  rw [lit15 a hd hs]
  generalize get a = g at *
  simp only [g0, g1, g2, g3, g4, g5, g6, g7, h18]
  clear hd hs g0 g1 g2 g3 g4 g5 g6 g7 h18
  go_wp2
  exact hQ.out _ ⟨rfl, rfl, rfl, rfl, rfl, rfl, rfl, rfl, rfl, rfl⟩ 
set_option maxHeartbeats 1000000 in
set_option maxRecDepth 100000 in
theorem u11 {Y : Y15} {a : Act} {w : World} {Q : Exit → Act → World → Prop} (hF : F15 Y a)  (mem : M15 Y w) 
    (hQ : Hid (∀ a', F15 Y a' → get a' 19 = .int .i64 0 → Q .normal a' w)) :
    Code.wp Try.prog (sub2 [true, true, true, false] (bodyOf Try.f15)) Q a w := by
  conv => arg 2; whnf
  obtain ⟨hd, hs, g0, g1, g2, g3, g4, g5, g6, g7⟩ := hF
  have zla := mem.la
  have zlb := mem.lb
  have zi1 := mem.i1
  have zj1 := mem.j1
  have MEM : Hid (M15 Y w) := mem
  clear mem
  rw [lit15 a hd hs]
  generalize get a = g at *
  simp only [g0, g1, g2, g3, g4, g5, g6, g7]
  clear hd hs g0 g1 g2 g3 g4 g5 g6 g7
  go_wp2
  exact hQ.out _ ⟨rfl, rfl, rfl, rfl, rfl, rfl, rfl, rfl, rfl, rfl⟩ rfl
set_option maxHeartbeats 1000000 in
set_option maxRecDepth 100000 in
theorem u12 {Y : Y15} {a : Act} {w : World} {m : Nat} {Q : Exit → Act → World → Prop} (hF : F15 Y a) (h19 : get a 19 = .int .i64 (m : Int)) (mem : M15 Y w) 
    (hQ : Hid (∀ a', F15 Y a' → get a' 19 = .int .i64 (m : Int) → get a' 20 = .int .i64 (Y.i0 : Int) → get a' 21 = .int .i64 (Y.j0 : Int) → Q .normal a' w)) :
    Code.wp Try.prog (sub2 [true, true, true, true, false] (bodyOf Try.f15)) Q a w := by
  conv => arg 2; whnf
  obtain ⟨hd, hs, g0, g1, g2, g3, g4, g5, g6, g7⟩ := hF
  have zla := mem.la
  have zlb := mem.lb
  have zi1 := mem.i1
  have zj1 := mem.j1
  have MEM : Hid (M15 Y w) := mem
  clear mem
  rw [lit15 a hd hs]
  generalize get a = g at *
  simp only [g0, g1, g2, g3, g4, g5, g6, g7, h19]
  clear hd hs g0 g1 g2 g3 g4 g5 g6 g7 h19
  go_wp2
  exact hQ.out _ ⟨rfl, rfl, rfl, rfl, rfl, rfl, rfl, rfl, rfl, rfl⟩ rfl rfl rfl
set_option maxHeartbeats 1000000 in
set_option maxRecDepth 100000 in
theorem u13_in {Y : Y15} {a : Act} {w : World} {m : Nat} {i : Nat} {j : Nat} {Q : Exit → Act → World → Prop} (hF : F15 Y a) (h19 : get a 19 = .int .i64 (m : Int)) (h20 : get a 20 = .int .i64 (i : Int)) (h21 : get a 21 = .int .i64 (j : Int)) (mem : M15 Y w) (h : i < Y.i1) (hc : Y.dl i = true) (hm : m ≤ 4096)
    (hQ : Hid (∀ a', F15 Y a' → get a' 19 = .int .i64 ((m : Int) + 1) → get a' 20 = .int .i64 ((i : Int) + 1) → get a' 21 = .int .i64 (j : Int) → Q .normal a' w)) :
    Code.wp Try.prog (sub2 [true, true, true, true, true, false, false, false, false, false, false, false] (bodyOf Try.f15)) Q a w := by
  conv => arg 2; whnf
  obtain ⟨hd, hs, g0, g1, g2, g3, g4, g5, g6, g7⟩ := hF
  have zla := mem.la
  have zlb := mem.lb
  have zi1 := mem.i1
  have zj1 := mem.j1
  have MEM : Hid (M15 Y w) := mem
  have cv := mem.dv (i) (by omega)
  rw [hc] at cv
  have hh : (i : Int) < Y.i1 := by omega
  clear mem
  rw [lit15 a hd hs]
  generalize get a = g at *
  simp only [g0, g1, g2, g3, g4, g5, g6, g7, h19, h20, h21]
  clear hd hs g0 g1 g2 g3 g4 g5 g6 g7 h19 h20 h21
  go_wp2
  exact hQ.out _ ⟨rfl, rfl, rfl, rfl, rfl, rfl, rfl, rfl, rfl, rfl⟩ rfl rfl rfl
set_option maxHeartbeats 1000000 in
set_option maxRecDepth 100000 in
theorem u13_out {Y : Y15} {a : Act} {w : World} {m : Nat} {i : Nat} {j : Nat} {Q : Exit → Act → World → Prop} (hF : F15 Y a) (h19 : get a 19 = .int .i64 (m : Int)) (h20 : get a 20 = .int .i64 (i : Int)) (h21 : get a 21 = .int .i64 (j : Int)) (mem : M15 Y w) (h : i < Y.i1) (hc : Y.dl i = false)
    (hQ : Hid (∀ a', F15 Y a' → get a' 19 = .int .i64 (m : Int) → get a' 20 = .int .i64 (i : Int) → get a' 21 = .int .i64 (j : Int) → Q (.exit 6) a' w)) :
    Code.wp Try.prog (sub2 [true, true, true, true, true, false, false, false, false, false, false, false] (bodyOf Try.f15)) Q a w := by
  conv => arg 2; whnf
  obtain ⟨hd, hs, g0, g1, g2, g3, g4, g5, g6, g7⟩ := hF
  have zla := mem.la
  have zlb := mem.lb
  have zi1 := mem.i1
  have zj1 := mem.j1
  have MEM : Hid (M15 Y w) := mem
  have cv := mem.dv (i) (by omega)
  rw [hc] at cv
  have hh : (i : Int) < Y.i1 := by omega
  clear mem
  rw [lit15 a hd hs]
  generalize get a = g at *
  simp only [g0, g1, g2, g3, g4, g5, g6, g7, h19, h20, h21]
  clear hd hs g0 g1 g2 g3 g4 g5 g6 g7 h19 h20 h21
  go_wp2
  exact hQ.out _ ⟨rfl, rfl, rfl, rfl, rfl, rfl, rfl, rfl, rfl, rfl⟩ rfl rfl rfl
set_option maxHeartbeats 1000000 in
set_option maxRecDepth 100000 in
theorem u13_end {Y : Y15} {a : Act} {w : World} {m : Nat} {i : Nat} {j : Nat} {Q : Exit → Act → World → Prop} (hF : F15 Y a) (h19 : get a 19 = .int .i64 (m : Int)) (h20 : get a 20 = .int .i64 (i : Int)) (h21 : get a 21 = .int .i64 (j : Int)) (mem : M15 Y w) (h : Y.i1 ≤ i)
    (hQ : Hid (∀ a', F15 Y a' → get a' 19 = .int .i64 (m : Int) → get a' 20 = .int .i64 (i : Int) → get a' 21 = .int .i64 (j : Int) → Q (.exit 6) a' w)) :
    Code.wp Try.prog (sub2 [true, true, true, true, true, false, false, false, false, false, false, false] (bodyOf Try.f15)) Q a w := by
  conv => arg 2; whnf
  obtain ⟨hd, hs, g0, g1, g2, g3, g4, g5, g6, g7⟩ := hF
  have zla := mem.la
  have zlb := mem.lb
  have zi1 := mem.i1
  have zj1 := mem.j1
  have MEM : Hid (M15 Y w) := mem
  have hh : (Y.i1 : Int) ≤ i := by omega
  clear mem
  rw [lit15 a hd hs]
  generalize get a = g at *
  simp only [g0, g1, g2, g3, g4, g5, g6, g7, h19, h20, h21]
  clear hd hs g0 g1 g2 g3 g4 g5 g6 g7 h19 h20 h21
  go_wp2
  exact hQ.out _ ⟨rfl, rfl, rfl, rfl, rfl, rfl, rfl, rfl, rfl, rfl⟩ rfl rfl rfl
set_option maxHeartbeats 1000000 in
set_option maxRecDepth 100000 in
theorem u16_in {Y : Y15} {a : Act} {w : World} {m : Nat} {i : Nat} {j : Nat} {Q : Exit → Act → World → Prop} (hF : F15 Y a) (h19 : get a 19 = .int .i64 (m : Int)) (h20 : get a 20 = .int .i64 (i : Int)) (h21 : get a 21 = .int .i64 (j : Int)) (mem : M15 Y w) (h : j < Y.j1) (hc : Y.il j = true) (hm : m ≤ 4096)
    (hQ : Hid (∀ a', F15 Y a' → get a' 19 = .int .i64 ((m : Int) + 1) → get a' 20 = .int .i64 (i : Int) → get a' 21 = .int .i64 ((j : Int) + 1) → Q .normal a' w)) :
    Code.wp Try.prog (sub2 [true, true, true, true, true, false, false, false, false, true, false, false, false] (bodyOf Try.f15)) Q a w := by
  conv => arg 2; whnf
  obtain ⟨hd, hs, g0, g1, g2, g3, g4, g5, g6, g7⟩ := hF
  have zla := mem.la
  have zlb := mem.lb
  have zi1 := mem.i1
  have zj1 := mem.j1
  have MEM : Hid (M15 Y w) := mem
  have cv := mem.iv (j) (by omega)
  rw [hc] at cv
  have hh : (j : Int) < Y.j1 := by omega
  clear mem
  rw [lit15 a hd hs]
  generalize get a = g at *
  simp only [g0, g1, g2, g3, g4, g5, g6, g7, h19, h20, h21]
  clear hd hs g0 g1 g2 g3 g4 g5 g6 g7 h19 h20 h21
  go_wp2
  exact hQ.out _ ⟨rfl, rfl, rfl, rfl, rfl, rfl, rfl, rfl, rfl, rfl⟩ rfl rfl rfl
set_option maxHeartbeats 1000000 in
set_option maxRecDepth 100000 in
theorem u16_out {Y : Y15} {a : Act} {w : World} {m : Nat} {i : Nat} {j : Nat} {Q : Exit → Act → World → Prop} (hF : F15 Y a) (h19 : get a 19 = .int .i64 (m : Int)) (h20 : get a 20 = .int .i64 (i : Int)) (h21 : get a 21 = .int .i64 (j : Int)) (mem : M15 Y w) (h : j < Y.j1) (hc : Y.il j = false)
    (hQ : Hid (∀ a', F15 Y a' → get a' 19 = .int .i64 (m : Int) → get a' 20 = .int .i64 (i : Int) → get a' 21 = .int .i64 (j : Int) → Q (.exit 8) a' w)) :
    Code.wp Try.prog (sub2 [true, true, true, true, true, false, false, false, false, true, false, false, false] (bodyOf Try.f15)) Q a w := by
  conv => arg 2; whnf
  obtain ⟨hd, hs, g0, g1, g2, g3, g4, g5, g6, g7⟩ := hF
  have zla := mem.la
  have zlb := mem.lb
  have zi1 := mem.i1
  have zj1 := mem.j1
  have MEM : Hid (M15 Y w) := mem
  have cv := mem.iv (j) (by omega)
  rw [hc] at cv
  have hh : (j : Int) < Y.j1 := by omega
  clear mem
  rw [lit15 a hd hs]
  generalize get a = g at *
  simp only [g0, g1, g2, g3, g4, g5, g6, g7, h19, h20, h21]
  clear hd hs g0 g1 g2 g3 g4 g5 g6 g7 h19 h20 h21
  go_wp2
  exact hQ.out _ ⟨rfl, rfl, rfl, rfl, rfl, rfl, rfl, rfl, rfl, rfl⟩ rfl rfl rfl
set_option maxHeartbeats 1000000 in
set_option maxRecDepth 100000 in
theorem u16_end {Y : Y15} {a : Act} {w : World} {m : Nat} {i : Nat} {j : Nat} {Q : Exit → Act → World → Prop} (hF : F15 Y a) (h19 : get a 19 = .int .i64 (m : Int)) (h20 : get a 20 = .int .i64 (i : Int)) (h21 : get a 21 = .int .i64 (j : Int)) (mem : M15 Y w) (h : Y.j1 ≤ j)
    (hQ : Hid (∀ a', F15 Y a' → get a' 19 = .int .i64 (m : Int) → get a' 20 = .int .i64 (i : Int) → get a' 21 = .int .i64 (j : Int) → Q (.exit 8) a' w)) :
    Code.wp Try.prog (sub2 [true, true, true, true, true, false, false, false, false, true, false, false, false] (bodyOf Try.f15)) Q a w := by
  conv => arg 2; whnf
  obtain ⟨hd, hs, g0, g1, g2, g3, g4, g5, g6, g7⟩ := hF
  have zla := mem.la
  have zlb := mem.lb
  have zi1 := mem.i1
  have zj1 := mem.j1
  have MEM : Hid (M15 Y w) := mem
  have hh : (Y.j1 : Int) ≤ j := by omega
  clear mem
  rw [lit15 a hd hs]
  generalize get a = g at *
  simp only [g0, g1, g2, g3, g4, g5, g6, g7, h19, h20, h21]
  clear hd hs g0 g1 g2 g3 g4 g5 g6 g7 h19 h20 h21
  go_wp2
  exact hQ.out _ ⟨rfl, rfl, rfl, rfl, rfl, rfl, rfl, rfl, rfl, rfl⟩ rfl rfl rfl
set_option maxHeartbeats 1000000 in
set_option maxRecDepth 100000 in
theorem u19_end {Y : Y15} {a : Act} {w : World} {m : Nat} {i : Nat} {j : Nat} {Q : Exit → Act → World → Prop} (hF : F15 Y a) (h19 : get a 19 = .int .i64 (m : Int)) (h20 : get a 20 = .int .i64 (i : Int)) (h21 : get a 21 = .int .i64 (j : Int)) (mem : M15 Y w) (h : i = Y.i1)
    (hQ : Hid (∀ a', F15 Y a' → get a' 19 = .int .i64 (m : Int) → get a' 20 = .int .i64 (i : Int) → get a' 21 = .int .i64 (j : Int) → Q (.exit 4) a' w)) :
    Code.wp Try.prog (sub2 [true, true, true, true, true, false, false, false, false, true, true, false] (bodyOf Try.f15)) Q a w := by
  conv => arg 2; whnf
  obtain ⟨hd, hs, g0, g1, g2, g3, g4, g5, g6, g7⟩ := hF
  have zla := mem.la
  have zlb := mem.lb
  have zi1 := mem.i1
  have zj1 := mem.j1
  have MEM : Hid (M15 Y w) := mem
  have hh : ((i : Int) == (Y.i1 : Int)) = true := by simp; omega
  clear mem
  rw [lit15 a hd hs]
  generalize get a = g at *
  simp only [g0, g1, g2, g3, g4, g5, g6, g7, h19, h20, h21]
  clear hd hs g0 g1 g2 g3 g4 g5 g6 g7 h19 h20 h21
  go_wp2
  exact hQ.out _ ⟨rfl, rfl, rfl, rfl, rfl, rfl, rfl, rfl, rfl, rfl⟩ rfl rfl rfl
set_option maxHeartbeats 1000000 in
set_option maxRecDepth 100000 in
theorem u19_on {Y : Y15} {a : Act} {w : World} {m : Nat} {i : Nat} {j : Nat} {Q : Exit → Act → World → Prop} (hF : F15 Y a) (h19 : get a 19 = .int .i64 (m : Int)) (h20 : get a 20 = .int .i64 (i : Int)) (h21 : get a 21 = .int .i64 (j : Int)) (mem : M15 Y w) (h : i ≠ Y.i1) (h2 : j ≠ Y.j1)
    (hQ : Hid (∀ a', F15 Y a' → get a' 19 = .int .i64 (m : Int) → get a' 20 = .int .i64 (i : Int) → get a' 21 = .int .i64 (j : Int) → Q .normal a' w)) :
    Code.wp Try.prog (sub2 [true, true, true, true, true, false, false, false, false, true, true, false] (bodyOf Try.f15)) Q a w := by
  conv => arg 2; whnf
  obtain ⟨hd, hs, g0, g1, g2, g3, g4, g5, g6, g7⟩ := hF
  have zla := mem.la
  have zlb := mem.lb
  have zi1 := mem.i1
  have zj1 := mem.j1
  have MEM : Hid (M15 Y w) := mem
  have hh : ((i : Int) == (Y.i1 : Int)) = false := by simp; omega
  have hh2 : ((j : Int) == (Y.j1 : Int)) = false := by simp; omega
  clear mem
  rw [lit15 a hd hs]
  generalize get a = g at *
  simp only [g0, g1, g2, g3, g4, g5, g6, g7, h19, h20, h21]
  clear hd hs g0 g1 g2 g3 g4 g5 g6 g7 h19 h20 h21
  go_wp2
  exact hQ.out _ ⟨rfl, rfl, rfl, rfl, rfl, rfl, rfl, rfl, rfl, rfl⟩ rfl rfl rfl
set_option maxHeartbeats 1000000 in
set_option maxRecDepth 100000 in
theorem u20 {Y : Y15} {a : Act} {w : World} {m : Nat} {i : Nat} {j : Nat} {Q : Exit → Act → World → Prop} (hF : F15 Y a) (h19 : get a 19 = .int .i64 (m : Int)) (h20 : get a 20 = .int .i64 (i : Int)) (h21 : get a 21 = .int .i64 (j : Int)) (mem : M15 Y w) (h : i < Y.la) (h2 : j < Y.lb) (heq : Y.A i = Y.B j)
    (hQ : Hid (∀ a' q, F15 Y a' → get a' 19 = .int .i64 (m : Int) → get a' 20 = .int .i64 (i : Int) → get a' 21 = .int .i64 (j : Int) → Q .normal a' (w.drewN q))) :
    Code.wp Try.prog (sub2 [true, true, true, true, true, false, false, false, false, true, true, true, false] (bodyOf Try.f15)) Q a w := by
  conv => arg 2; whnf
  obtain ⟨hd, hs, g0, g1, g2, g3, g4, g5, g6, g7⟩ := hF
  have zla := mem.la
  have zlb := mem.lb
  have zi1 := mem.i1
  have zj1 := mem.j1
  have MEM : Hid (M15 Y w) := mem
  have cA := mem.ia.cells i h
  have cB := mem.ib.cells j h2
  rw [← heq] at cB
  generalize Y.A i = av at *
  have ea : Y.aa = some ⟨Y.ab, 0, none⟩ := by rcases mem.a_ with h | h; exact absurd h.2 (by omega); exact h
  have eb : Y.ba = some ⟨Y.bb, 0, none⟩ := by rcases mem.b_ with h | h; exact absurd h.2 (by omega); exact h
  rw [ea] at g0
  rw [eb] at g1
  have EA : Hid (Y.aa = some ⟨Y.ab, 0, none⟩) := ea
  have EB : Hid (Y.ba = some ⟨Y.bb, 0, none⟩) := eb
  clear ea eb
  clear mem
  rw [lit15 a hd hs]
  generalize get a = g at *
  simp only [g0, g1, g2, g3, g4, g5, g6, g7, h19, h20, h21]
  clear hd hs g0 g1 g2 g3 g4 g5 g6 g7 h19 h20 h21
  go_wp2
  go_quiet (fail)
  go_wp2
  exact hQ.out _ _ ⟨rfl, rfl, by rw [EA.out]; rfl, by rw [EB.out]; rfl, rfl, rfl, rfl, rfl, rfl, rfl⟩ rfl rfl rfl
set_option maxHeartbeats 1000000 in
set_option maxRecDepth 100000 in
theorem u22 {Y : Y15} {a : Act} {w : World} {m : Nat} {i : Nat} {j : Nat} {Q : Exit → Act → World → Prop} (hF : F15 Y a) (h19 : get a 19 = .int .i64 (m : Int)) (h20 : get a 20 = .int .i64 (i : Int)) (h21 : get a 21 = .int .i64 (j : Int)) (mem : M15 Y w) (h : i ≤ 4096) (h2 : j ≤ 4096)
    (hQ : Hid (∀ a', F15 Y a' → get a' 19 = .int .i64 (m : Int) → get a' 20 = .int .i64 ((i : Int) + 1) → get a' 21 = .int .i64 ((j : Int) + 1) → Q .normal a' w)) :
    Code.wp Try.prog (sub2 [true, true, true, true, true, false, false, false, false, true, true, true, true] (bodyOf Try.f15)) Q a w := by
  conv => arg 2; whnf
  obtain ⟨hd, hs, g0, g1, g2, g3, g4, g5, g6, g7⟩ := hF
  have zla := mem.la
  have zlb := mem.lb
  have zi1 := mem.i1
  have zj1 := mem.j1
  have MEM : Hid (M15 Y w) := mem
  clear mem
  rw [lit15 a hd hs]
  generalize get a = g at *
  simp only [g0, g1, g2, g3, g4, g5, g6, g7, h19, h20, h21]
  clear hd hs g0 g1 g2 g3 g4 g5 g6 g7 h19 h20 h21
  go_wp2
  exact hQ.out _ ⟨rfl, rfl, rfl, rfl, rfl, rfl, rfl, rfl, rfl, rfl⟩ rfl rfl rfl
set_option maxHeartbeats 1000000 in
set_option maxRecDepth 100000 in
theorem u24 {Y : Y15} {a : Act} {w : World} {m : Nat} {i : Nat} {j : Nat} {Q : Exit → Act → World → Prop} (hF : F15 Y a) (h19 : get a 19 = .int .i64 (m : Int)) (h20 : get a 20 = .int .i64 (i : Int)) (h21 : get a 21 = .int .i64 (j : Int)) (mem : M15 Y w) (h : i = Y.i1) (h2 : j = Y.j1)
    (hQ : Hid (∀ a', F15 Y a' → get a' 19 = .int .i64 (m : Int) → Q .normal a' w)) :
    Code.wp Try.prog (sub2 [true, true, true, true, true, true, false] (bodyOf Try.f15)) Q a w := by
  conv => arg 2; whnf
  obtain ⟨hd, hs, g0, g1, g2, g3, g4, g5, g6, g7⟩ := hF
  have zla := mem.la
  have zlb := mem.lb
  have zi1 := mem.i1
  have zj1 := mem.j1
  have MEM : Hid (M15 Y w) := mem
  have hh : ((i : Int) != (Y.i1 : Int)) = false := by simp; omega
  have hh2 : ((j : Int) != (Y.j1 : Int)) = false := by simp; omega
  clear mem
  rw [lit15 a hd hs]
  generalize get a = g at *
  simp only [g0, g1, g2, g3, g4, g5, g6, g7, h19, h20, h21]
  clear hd hs g0 g1 g2 g3 g4 g5 g6 g7 h19 h20 h21
  go_wp2
  exact hQ.out _ ⟨rfl, rfl, rfl, rfl, rfl, rfl, rfl, rfl, rfl, rfl⟩ rfl
end Go.Proofs.Qxb6601687a
