/-
  FnCompactRunsEndLowOrAligned (function 10): the pieces of its own loop.
-/
import Derived.Test.Qxb6601687aCptD
namespace Go.Proofs.Qxb6601687a
open Go.RowKit
set_option linter.unusedVariables false
set_option linter.unusedSimpArgs false

set_option maxRecDepth 100000 in
theorem lit10 (a : Act) (hd : a.defers = []) (hs : a.tmps.size = 94) : a = ⟨#[get a 0, get a 1, get a 2, get a 3, get a 4, get a 5, get a 6, get a 7, get a 8, get a 9, get a 10, get a 11, get a 12, get a 13, get a 14, get a 15, get a 16, get a 17, get a 18, get a 19, get a 20, get a 21, get a 22, get a 23, get a 24, get a 25, get a 26, get a 27, get a 28, get a 29, get a 30, get a 31, get a 32, get a 33, get a 34, get a 35, get a 36, get a 37, get a 38, get a 39, get a 40, get a 41, get a 42, get a 43, get a 44, get a 45, get a 46, get a 47, get a 48, get a 49, get a 50, get a 51, get a 52, get a 53, get a 54, get a 55, get a 56, get a 57, get a 58, get a 59, get a 60, get a 61, get a 62, get a 63, get a 64, get a 65, get a 66, get a 67, get a 68, get a 69, get a 70, get a 71, get a 72, get a 73, get a 74, get a 75, get a 76, get a 77, get a 78, get a 79, get a 80, get a 81, get a 82, get a 83, get a 84, get a 85, get a 86, get a 87, get a 88, get a 89, get a 90, get a 91, get a 92, get a 93], []⟩ := act_eq a 94 hd hs

structure Y10 where
  (la ca oa : Option Addr)
  (lb cb ob n m : Nat)
  (l : Nat → Int)
  (c o : Nat → Bool)

structure F10 (Y : Y10) (a : Act) : Prop where
  d : a.defers = []
  s : a.tmps.size = 94
  g0 : get a 0 = .slice Y.la Y.n Y.n
  g2 : get a 2 = .slice Y.oa Y.m Y.m
  g7 : get a 7 = .slice Y.ca Y.n Y.n
  g8 : get a 8 = .int .i64 (Y.n : Int)

structure M10 (Y : Y10) (w : World) : Prop where
  n : Y.n ≤ 4096
  m : Y.m ≤ 4096
  la : 0 < Y.n → Y.la = some ⟨Y.lb, 0, none⟩
  ca : 0 < Y.n → Y.ca = some ⟨Y.cb, 0, none⟩
  line : ∀ i, i < Y.n → w.cell? ⟨Y.lb, i, none⟩ = some (.int .i32 (Y.l i))
  mark : ∀ i, i < Y.n → w.cell? ⟨Y.cb, i, none⟩ = some (.bool (Y.c i))
  bs : Bs w Y.oa Y.ob 0 Y.m Y.o
theorem Bs.drewN {w a b o n B} (h : Bs w a b o n B) (q : Nat) : Bs (w.drewN q) a b o n B := ⟨h.at_, h.lt, h.cells⟩
theorem M10.drewN {Y w} (h : M10 Y w) (q : Nat) : M10 Y (w.drewN q) := ⟨h.n, h.m, h.la, h.ca, h.line, h.mark, h.bs.drewN q⟩

set_option maxHeartbeats 1000000 in
set_option maxRecDepth 100000 in
theorem y15_in {Y : Y10} {a : Act} {w : World} {u : Nat} {s : Nat} {Q : Exit → Act → World → Prop} (hF : F10 Y a) (h9 : get a 9 = .int .i64 (u : Int)) (h10 : get a 10 = .int .i64 (s : Int)) (mem : M10 Y w) (h : s < Y.n)
    (hQ : Hid (∀ a', F10 Y a' → get a' 9 = .int .i64 (u : Int) → get a' 10 = .int .i64 (s : Int) → Q .normal a' w)) :
    Code.wp Try.prog (sub2 [true, true, true, true, true, true, true, true, true, true, true, false, true, false, false, false] (bodyOf Try.f10)) Q a w := by
  conv => arg 2; whnf
  obtain ⟨hd, hs, g0, g2, g7, g8⟩ := hF
  have zn := mem.n
  have zm := mem.m
  have MEM : Hid (M10 Y w) := mem
  have hh : (s : Int) < Y.n := by omega
  clear mem
  rw [lit10 a hd hs]
  generalize get a = g at *
  simp only [g0, g2, g7, g8, h9, h10]
  clear hd hs g0 g2 g7 g8 h9 h10
  go_wp2
  exact hQ.out _ ⟨rfl, rfl, rfl, rfl, rfl, rfl⟩ rfl rfl
set_option maxHeartbeats 1000000 in
set_option maxRecDepth 100000 in
theorem y15_out {Y : Y10} {a : Act} {w : World} {u : Nat} {s : Nat} {Q : Exit → Act → World → Prop} (hF : F10 Y a) (h9 : get a 9 = .int .i64 (u : Int)) (h10 : get a 10 = .int .i64 (s : Int)) (mem : M10 Y w) (h : Y.n ≤ s)
    (hQ : Hid (∀ a', F10 Y a' → get a' 9 = .int .i64 (u : Int) → get a' 10 = .int .i64 (s : Int) → Q (.exit 0) a' w)) :
    Code.wp Try.prog (sub2 [true, true, true, true, true, true, true, true, true, true, true, false, true, false, false, false] (bodyOf Try.f10)) Q a w := by
  conv => arg 2; whnf
  obtain ⟨hd, hs, g0, g2, g7, g8⟩ := hF
  have zn := mem.n
  have zm := mem.m
  have MEM : Hid (M10 Y w) := mem
  have hh : (Y.n : Int) ≤ s := by omega
  clear mem
  rw [lit10 a hd hs]
  generalize get a = g at *
  simp only [g0, g2, g7, g8, h9, h10]
  clear hd hs g0 g2 g7 g8 h9 h10
  go_wp2
  exact hQ.out _ ⟨rfl, rfl, rfl, rfl, rfl, rfl⟩ rfl rfl
set_option maxHeartbeats 1000000 in
set_option maxRecDepth 100000 in
theorem y16_off {Y : Y10} {a : Act} {w : World} {u : Nat} {s : Nat} {Q : Exit → Act → World → Prop} (hF : F10 Y a) (h9 : get a 9 = .int .i64 (u : Int)) (h10 : get a 10 = .int .i64 (s : Int)) (mem : M10 Y w) (h : s < Y.n) (hc : Y.c s = false) (hu : u ≤ s)
    (hQ : Hid (∀ a', F10 Y a' → get a' 9 = .int .i64 ((u : Int) + 1) → get a' 10 = .int .i64 ((s : Int) + 1) → Q (.exit 1) a' w)) :
    Code.wp Try.prog (sub2 [true, true, true, true, true, true, true, true, true, true, true, false, true, false, false, true, false, false] (bodyOf Try.f10)) Q a w := by
  conv => arg 2; whnf
  obtain ⟨hd, hs, g0, g2, g7, g8⟩ := hF
  have zn := mem.n
  have zm := mem.m
  have MEM : Hid (M10 Y w) := mem
  have el := mem.la (by omega)
  have ec := mem.ca (by omega)
  rw [el] at g0
  rw [ec] at g7
  have EL : Hid (Y.la = some ⟨Y.lb, 0, none⟩) := el
  have EC : Hid (Y.ca = some ⟨Y.cb, 0, none⟩) := ec
  clear el ec
  have cv := mem.mark (s) (by omega)
  rw [hc] at cv
  clear mem
  rw [lit10 a hd hs]
  generalize get a = g at *
  simp only [g0, g2, g7, g8, h9, h10]
  clear hd hs g0 g2 g7 g8 h9 h10
  go_wp2
  exact hQ.out _ ⟨rfl, rfl, by rw [EL.out]; rfl, rfl, by rw [EC.out]; rfl, rfl⟩ rfl rfl
set_option maxHeartbeats 1000000 in
set_option maxRecDepth 100000 in
theorem y16_on {Y : Y10} {a : Act} {w : World} {u : Nat} {s : Nat} {Q : Exit → Act → World → Prop} (hF : F10 Y a) (h9 : get a 9 = .int .i64 (u : Int)) (h10 : get a 10 = .int .i64 (s : Int)) (mem : M10 Y w) (h : s < Y.n) (hc : Y.c s = true)
    (hQ : Hid (∀ a', F10 Y a' → get a' 9 = .int .i64 (u : Int) → get a' 10 = .int .i64 (s : Int) → Q .normal a' w)) :
    Code.wp Try.prog (sub2 [true, true, true, true, true, true, true, true, true, true, true, false, true, false, false, true, false, false] (bodyOf Try.f10)) Q a w := by
  conv => arg 2; whnf
  obtain ⟨hd, hs, g0, g2, g7, g8⟩ := hF
  have zn := mem.n
  have zm := mem.m
  have MEM : Hid (M10 Y w) := mem
  have el := mem.la (by omega)
  have ec := mem.ca (by omega)
  rw [el] at g0
  rw [ec] at g7
  have EL : Hid (Y.la = some ⟨Y.lb, 0, none⟩) := el
  have EC : Hid (Y.ca = some ⟨Y.cb, 0, none⟩) := ec
  clear el ec
  have cv := mem.mark (s) (by omega)
  rw [hc] at cv
  clear mem
  rw [lit10 a hd hs]
  generalize get a = g at *
  simp only [g0, g2, g7, g8, h9, h10]
  clear hd hs g0 g2 g7 g8 h9 h10
  go_wp2
  exact hQ.out _ ⟨rfl, rfl, by rw [EL.out]; rfl, rfl, by rw [EC.out]; rfl, rfl⟩ rfl rfl
set_option maxHeartbeats 1000000 in
set_option maxRecDepth 100000 in
theorem y19 {Y : Y10} {a : Act} {w : World} {u : Nat} {s : Nat} {Q : Exit → Act → World → Prop} (hF : F10 Y a) (h9 : get a 9 = .int .i64 (u : Int)) (h10 : get a 10 = .int .i64 (s : Int)) (mem : M10 Y w) 
    (hQ : Hid (∀ a', F10 Y a' → get a' 9 = .int .i64 (u : Int) → get a' 10 = .int .i64 (s : Int) → get a' 11 = .int .i64 (s : Int) → Q .normal a' w)) :
    Code.wp Try.prog (sub2 [true, true, true, true, true, true, true, true, true, true, true, false, true, false, false, true, false, true, false] (bodyOf Try.f10)) Q a w := by
  conv => arg 2; whnf
  obtain ⟨hd, hs, g0, g2, g7, g8⟩ := hF
  have zn := mem.n
  have zm := mem.m
  have MEM : Hid (M10 Y w) := mem
  clear mem
  rw [lit10 a hd hs]
  generalize get a = g at *
  simp only [g0, g2, g7, g8, h9, h10]
  clear hd hs g0 g2 g7 g8 h9 h10
  go_wp2
  exact hQ.out _ ⟨rfl, rfl, rfl, rfl, rfl, rfl⟩ rfl rfl rfl
set_option maxHeartbeats 1000000 in
set_option maxRecDepth 100000 in
theorem y20_in {Y : Y10} {a : Act} {w : World} {u : Nat} {s : Nat} {e : Nat} {Q : Exit → Act → World → Prop} (hF : F10 Y a) (h9 : get a 9 = .int .i64 (u : Int)) (h10 : get a 10 = .int .i64 (s : Int)) (h11 : get a 11 = .int .i64 (e : Int)) (mem : M10 Y w) (h : e < Y.n) (hc : Y.c e = true)
    (hQ : Hid (∀ a', F10 Y a' → get a' 9 = .int .i64 (u : Int) → get a' 10 = .int .i64 (s : Int) → get a' 11 = .int .i64 ((e : Int) + 1) → Q .normal a' w)) :
    Code.wp Try.prog (sub2 [true, true, true, true, true, true, true, true, true, true, true, false, true, false, false, true, false, true, true, false, false, false] (bodyOf Try.f10)) Q a w := by
  conv => arg 2; whnf
  obtain ⟨hd, hs, g0, g2, g7, g8⟩ := hF
  have zn := mem.n
  have zm := mem.m
  have MEM : Hid (M10 Y w) := mem
  have el := mem.la (by omega)
  have ec := mem.ca (by omega)
  rw [el] at g0
  rw [ec] at g7
  have EL : Hid (Y.la = some ⟨Y.lb, 0, none⟩) := el
  have EC : Hid (Y.ca = some ⟨Y.cb, 0, none⟩) := ec
  clear el ec
  have cv := mem.mark (e) (by omega)
  rw [hc] at cv
  have hh : (e : Int) < Y.n := by omega
  clear mem
  rw [lit10 a hd hs]
  generalize get a = g at *
  simp only [g0, g2, g7, g8, h9, h10, h11]
  clear hd hs g0 g2 g7 g8 h9 h10 h11
  go_wp2
  exact hQ.out _ ⟨rfl, rfl, by rw [EL.out]; rfl, rfl, by rw [EC.out]; rfl, rfl⟩ rfl rfl rfl
set_option maxHeartbeats 1000000 in
set_option maxRecDepth 100000 in
theorem y20_end {Y : Y10} {a : Act} {w : World} {u : Nat} {s : Nat} {e : Nat} {Q : Exit → Act → World → Prop} (hF : F10 Y a) (h9 : get a 9 = .int .i64 (u : Int)) (h10 : get a 10 = .int .i64 (s : Int)) (h11 : get a 11 = .int .i64 (e : Int)) (mem : M10 Y w) (h : Y.n ≤ e)
    (hQ : Hid (∀ a', F10 Y a' → get a' 9 = .int .i64 (u : Int) → get a' 10 = .int .i64 (s : Int) → get a' 11 = .int .i64 (e : Int) → Q (.exit 2) a' w)) :
    Code.wp Try.prog (sub2 [true, true, true, true, true, true, true, true, true, true, true, false, true, false, false, true, false, true, true, false, false, false] (bodyOf Try.f10)) Q a w := by
  conv => arg 2; whnf
  obtain ⟨hd, hs, g0, g2, g7, g8⟩ := hF
  have zn := mem.n
  have zm := mem.m
  have MEM : Hid (M10 Y w) := mem
  have hh : (Y.n : Int) ≤ e := by omega
  clear mem
  rw [lit10 a hd hs]
  generalize get a = g at *
  simp only [g0, g2, g7, g8, h9, h10, h11]
  clear hd hs g0 g2 g7 g8 h9 h10 h11
  go_wp2
  exact hQ.out _ ⟨rfl, rfl, rfl, rfl, rfl, rfl⟩ rfl rfl rfl
set_option maxHeartbeats 1000000 in
set_option maxRecDepth 100000 in
theorem y20_out {Y : Y10} {a : Act} {w : World} {u : Nat} {s : Nat} {e : Nat} {Q : Exit → Act → World → Prop} (hF : F10 Y a) (h9 : get a 9 = .int .i64 (u : Int)) (h10 : get a 10 = .int .i64 (s : Int)) (h11 : get a 11 = .int .i64 (e : Int)) (mem : M10 Y w) (h : e < Y.n) (hc : Y.c e = false)
    (hQ : Hid (∀ a', F10 Y a' → get a' 9 = .int .i64 (u : Int) → get a' 10 = .int .i64 (s : Int) → get a' 11 = .int .i64 (e : Int) → Q (.exit 2) a' w)) :
    Code.wp Try.prog (sub2 [true, true, true, true, true, true, true, true, true, true, true, false, true, false, false, true, false, true, true, false, false, false] (bodyOf Try.f10)) Q a w := by
  conv => arg 2; whnf
  obtain ⟨hd, hs, g0, g2, g7, g8⟩ := hF
  have zn := mem.n
  have zm := mem.m
  have MEM : Hid (M10 Y w) := mem
  have el := mem.la (by omega)
  have ec := mem.ca (by omega)
  rw [el] at g0
  rw [ec] at g7
  have EL : Hid (Y.la = some ⟨Y.lb, 0, none⟩) := el
  have EC : Hid (Y.ca = some ⟨Y.cb, 0, none⟩) := ec
  clear el ec
  have cv := mem.mark (e) (by omega)
  rw [hc] at cv
  have hh : (e : Int) < Y.n := by omega
  clear mem
  rw [lit10 a hd hs]
  generalize get a = g at *
  simp only [g0, g2, g7, g8, h9, h10, h11]
  clear hd hs g0 g2 g7 g8 h9 h10 h11
  go_wp2
  exact hQ.out _ ⟨rfl, rfl, by rw [EL.out]; rfl, rfl, by rw [EC.out]; rfl, rfl⟩ rfl rfl rfl
set_option maxHeartbeats 1000000 in
set_option maxRecDepth 100000 in
theorem y22_end {Y : Y10} {a : Act} {w : World} {u : Nat} {s : Nat} {e : Nat} {Q : Exit → Act → World → Prop} (hF : F10 Y a) (h9 : get a 9 = .int .i64 (u : Int)) (h10 : get a 10 = .int .i64 (s : Int)) (h11 : get a 11 = .int .i64 (e : Int)) (mem : M10 Y w) (h : Y.n ≤ e)
    (hQ : Hid (∀ a' q, F10 Y a' → get a' 9 = .int .i64 (u : Int) → get a' 10 = .int .i64 (s : Int) → get a' 11 = .int .i64 (e : Int) → Q .normal a' (w.drewN q))) :
    Code.wp Try.prog (sub2 [true, true, true, true, true, true, true, true, true, true, true, false, true, false, false, true, false, true, true, true, false] (bodyOf Try.f10)) Q a w := by
  conv => arg 2; whnf
  obtain ⟨hd, hs, g0, g2, g7, g8⟩ := hF
  have zn := mem.n
  have zm := mem.m
  have MEM : Hid (M10 Y w) := mem
  have hh : decide ((e : Int) < (Y.n : Int)) = false := decide_eq_false (by omega)
  have hh2 : decide (e < Y.n) = false := decide_eq_false (by omega)
  clear mem
  rw [lit10 a hd hs]
  generalize get a = g at *
  simp only [g0, g2, g7, g8, h9, h10, h11]
  clear hd hs g0 g2 g7 g8 h9 h10 h11
  go_wp2
  go_quiet (fail)
  go_wp2
  exact hQ.out _ _ ⟨rfl, rfl, rfl, rfl, rfl, rfl⟩ rfl rfl rfl
set_option maxHeartbeats 1000000 in
set_option maxRecDepth 100000 in
theorem y22_ne {Y : Y10} {a : Act} {w : World} {u : Nat} {s : Nat} {e : Nat} {Q : Exit → Act → World → Prop} (hF : F10 Y a) (h9 : get a 9 = .int .i64 (u : Int)) (h10 : get a 10 = .int .i64 (s : Int)) (h11 : get a 11 = .int .i64 (e : Int)) (mem : M10 Y w) (hs : s < e) (h : e < Y.n) (heq : Y.l s ≠ Y.l e)
    (hQ : Hid (∀ a' q, F10 Y a' → get a' 9 = .int .i64 (u : Int) → get a' 10 = .int .i64 (s : Int) → get a' 11 = .int .i64 (e : Int) → Q .normal a' (w.drewN q))) :
    Code.wp Try.prog (sub2 [true, true, true, true, true, true, true, true, true, true, true, false, true, false, false, true, false, true, true, true, false] (bodyOf Try.f10)) Q a w := by
  conv => arg 2; whnf
  obtain ⟨hd, hs, g0, g2, g7, g8⟩ := hF
  have zn := mem.n
  have zm := mem.m
  have MEM : Hid (M10 Y w) := mem
  have el := mem.la (by omega)
  have ec := mem.ca (by omega)
  rw [el] at g0
  rw [ec] at g7
  have EL : Hid (Y.la = some ⟨Y.lb, 0, none⟩) := el
  have EC : Hid (Y.ca = some ⟨Y.cb, 0, none⟩) := ec
  clear el ec
  have l1 := mem.line s (by omega)
  have l2 := mem.line e (by omega)
  have hh : (e : Int) < Y.n := by omega
  have hne : (Y.l s == Y.l e) = false := by simpa using heq
  clear heq
  generalize Y.l e = lv at *
  generalize Y.l s = lu at *
  clear mem
  rw [lit10 a hd hs]
  generalize get a = g at *
  simp only [g0, g2, g7, g8, h9, h10, h11]
  clear hd hs g0 g2 g7 g8 h9 h10 h11
  go_wp2
  go_quiet (fail)
  go_wp2
  exact hQ.out _ _ ⟨rfl, rfl, by rw [EL.out]; rfl, rfl, by rw [EC.out]; rfl, rfl⟩ rfl rfl rfl
set_option maxHeartbeats 1000000 in
set_option maxRecDepth 100000 in
theorem y22_eq {Y : Y10} {a : Act} {w : World} {u : Nat} {s : Nat} {e : Nat} {Q : Exit → Act → World → Prop} (hF : F10 Y a) (h9 : get a 9 = .int .i64 (u : Int)) (h10 : get a 10 = .int .i64 (s : Int)) (h11 : get a 11 = .int .i64 (e : Int)) (mem : M10 Y w) (hs : s < e) (h : e < Y.n) (heq : Y.l s = Y.l e) (hu : u ≤ 4096) (hS : Cm.sl Y.o Y.m u = true)
    (hQ : Hid (∀ a' q, F10 Y a' → get a' 9 = .int .i64 (u : Int) → get a' 10 = .int .i64 (s : Int) → get a' 11 = .int .i64 (e : Int) → Q .normal a' (w.drewN q))) :
    Code.wp Try.prog (sub2 [true, true, true, true, true, true, true, true, true, true, true, false, true, false, false, true, false, true, true, true, false] (bodyOf Try.f10)) Q a w := by
  conv => arg 2; whnf
  obtain ⟨hd, hs, g0, g2, g7, g8⟩ := hF
  have zn := mem.n
  have zm := mem.m
  have MEM : Hid (M10 Y w) := mem
  have el := mem.la (by omega)
  have ec := mem.ca (by omega)
  rw [el] at g0
  rw [ec] at g7
  have EL : Hid (Y.la = some ⟨Y.lb, 0, none⟩) := el
  have EC : Hid (Y.ca = some ⟨Y.cb, 0, none⟩) := ec
  clear el ec
  have l1 := mem.line s (by omega)
  have l2 := mem.line e (by omega)
  have hh : (e : Int) < Y.n := by omega
  rw [heq] at l1
  generalize Y.l e = lv at *
  have CALL : Hid (∀ q, Calls Try.prog 31 #[.slice Y.oa Y.m Y.m, .int .i64 (u : Int)] (w.drewN q) fun e w' => e = .returned (.bool true) ∧ w' = w.drewN q) := fun q => by
    have := after31 Y.oa Y.ob 0 Y.m Y.m u Y.o (w.drewN q) zm hu (mem.bs.drewN q)
    rw [hS] at this
    exact this
  clear mem
  rw [lit10 a hd hs]
  generalize get a = g at *
  simp only [g0, g2, g7, g8, h9, h10, h11]
  clear hd hs g0 g2 g7 g8 h9 h10 h11
  go_wp2
  go_quiet (first | (go_at_call 31; exact Calls.quiet_of_same (CALL.out _)))
  go_wp2
  exact hQ.out _ _ ⟨rfl, rfl, by rw [EL.out]; rfl, rfl, by rw [EC.out]; rfl, rfl⟩ rfl rfl rfl
set_option maxHeartbeats 1000000 in
set_option maxRecDepth 100000 in
theorem y24 {Y : Y10} {a : Act} {w : World} {u : Nat} {s : Nat} {e : Nat} {Q : Exit → Act → World → Prop} (hF : F10 Y a) (h9 : get a 9 = .int .i64 (u : Int)) (h10 : get a 10 = .int .i64 (s : Int)) (h11 : get a 11 = .int .i64 (e : Int)) (mem : M10 Y w) 
    (hQ : Hid (∀ a', F10 Y a' → get a' 9 = .int .i64 (u : Int) → get a' 10 = .int .i64 (e : Int) → Q .normal a' w)) :
    Code.wp Try.prog (sub2 [true, true, true, true, true, true, true, true, true, true, true, false, true, false, false, true, false, true, true, true, true] (bodyOf Try.f10)) Q a w := by
  conv => arg 2; whnf
  obtain ⟨hd, hs, g0, g2, g7, g8⟩ := hF
  have zn := mem.n
  have zm := mem.m
  have MEM : Hid (M10 Y w) := mem
  clear mem
  rw [lit10 a hd hs]
  generalize get a = g at *
  simp only [g0, g2, g7, g8, h9, h10, h11]
  clear hd hs g0 g2 g7 g8 h9 h10 h11
  go_wp2
  exact hQ.out _ ⟨rfl, rfl, rfl, rfl, rfl, rfl⟩ rfl rfl
theorem zx1 : sub2 [true, true, true, true, true, true, true, true, true, true, true, false, true, false, false] (bodyOf Try.f10) = .seq (sub2 [true, true, true, true, true, true, true, true, true, true, true, false, true, false, false, false] (bodyOf Try.f10)) (sub2 [true, true, true, true, true, true, true, true, true, true, true, false, true, false, false, true] (bodyOf Try.f10)) := by kernel_rfl
theorem zx2 : sub2 [true, true, true, true, true, true, true, true, true, true, true, false, true, false, false, true] (bodyOf Try.f10) = .block 1 (sub2 [true, true, true, true, true, true, true, true, true, true, true, false, true, false, false, true, false] (bodyOf Try.f10)) := by kernel_rfl
theorem zx3 : sub2 [true, true, true, true, true, true, true, true, true, true, true, false, true, false, false, true, false] (bodyOf Try.f10) = .seq (sub2 [true, true, true, true, true, true, true, true, true, true, true, false, true, false, false, true, false, false] (bodyOf Try.f10)) (sub2 [true, true, true, true, true, true, true, true, true, true, true, false, true, false, false, true, false, true] (bodyOf Try.f10)) := by kernel_rfl
theorem zx4 : sub2 [true, true, true, true, true, true, true, true, true, true, true, false, true, false, false, true, false, true] (bodyOf Try.f10) = .seq (sub2 [true, true, true, true, true, true, true, true, true, true, true, false, true, false, false, true, false, true, false] (bodyOf Try.f10)) (sub2 [true, true, true, true, true, true, true, true, true, true, true, false, true, false, false, true, false, true, true] (bodyOf Try.f10)) := by kernel_rfl
theorem zx5 : sub2 [true, true, true, true, true, true, true, true, true, true, true, false, true, false, false, true, false, true, true] (bodyOf Try.f10) = .seq (sub2 [true, true, true, true, true, true, true, true, true, true, true, false, true, false, false, true, false, true, true, false] (bodyOf Try.f10)) (sub2 [true, true, true, true, true, true, true, true, true, true, true, false, true, false, false, true, false, true, true, true] (bodyOf Try.f10)) := by kernel_rfl
theorem zx5b : sub2 [true, true, true, true, true, true, true, true, true, true, true, false, true, false, false, true, false, true, true, false] (bodyOf Try.f10) = .block 2 (sub2 [true, true, true, true, true, true, true, true, true, true, true, false, true, false, false, true, false, true, true, false, false] (bodyOf Try.f10)) := by kernel_rfl
theorem zx5o : sub2 [true, true, true, true, true, true, true, true, true, true, true, false, true, false, false, true, false, true, true, false, false] (bodyOf Try.f10) = .loop (sub2 [true, true, true, true, true, true, true, true, true, true, true, false, true, false, false, true, false, true, true, false, false, false] (bodyOf Try.f10)) := by kernel_rfl
theorem zx6 : sub2 [true, true, true, true, true, true, true, true, true, true, true, false, true, false, false, true, false, true, true, true] (bodyOf Try.f10) = .seq (sub2 [true, true, true, true, true, true, true, true, true, true, true, false, true, false, false, true, false, true, true, true, false] (bodyOf Try.f10)) (sub2 [true, true, true, true, true, true, true, true, true, true, true, false, true, false, false, true, false, true, true, true, true] (bodyOf Try.f10)) := by kernel_rfl

theorem scan20 {Y : Y10} {w : World} {u s : Nat} {Q : Exit → Act → World → Prop} (mem : M10 Y w) (k : Nat) : ∀ (a : Act) (e : Nat), F10 Y a → get a 9 = .int .i64 (u : Int) → get a 10 = .int .i64 (s : Int) → get a 11 = .int .i64 (e : Int) → e ≤ Y.n → Y.n - e ≤ k →
    (∀ a' (e' : Nat), F10 Y a' → get a' 9 = .int .i64 (u : Int) → get a' 10 = .int .i64 (s : Int) → get a' 11 = .int .i64 (e' : Int) → e ≤ e' → e' ≤ Y.n → (∀ i, e ≤ i → i < e' → Y.c i = true) → Cm.Bot Y.n Y.c e' → Q (.exit 2) a' w) →
    Code.rounds Try.prog (sub2 [true, true, true, true, true, true, true, true, true, true, true, false, true, false, false, true, false, true, true, false, false, false] (bodyOf Try.f10)) Q (k + 1) a w := by
  induction k with
  | zero =>
    intro a e F h9 h10 h11 he hk hQ
    rw [rounds_succ]
    refine y20_end F h9 h10 h11 mem (by omega) ?_
    intro a' F' k9 k10 k11
    exact hQ a' e F' k9 k10 k11 (Nat.le_refl _) he (fun i h1 h2 => by omega) (.inl (by omega))
  | succ k ih =>
    intro a e F h9 h10 h11 he hk hQ
    rw [rounds_succ]
    rcases bot_cases (c := Y.c) he with h | ⟨h, hc⟩ | ⟨h, hc⟩
    · refine y20_end F h9 h10 h11 mem h ?_
      intro a' F' k9 k10 k11
      exact hQ a' e F' k9 k10 k11 (Nat.le_refl _) he (fun i h1 h2 => by omega) (.inl (by omega))
    · refine y20_in F h9 h10 h11 mem h hc ?_
      intro a' F' k9 k10 k11
      refine ih a' (e + 1) F' k9 k10 k11 h (by omega) ?_
      intro a2 e2 F2 j9 j10 j11 h1 h2 h3 h4
      refine hQ a2 e2 F2 j9 j10 j11 (by omega) h2 (fun i i1 i2 => ?_) h4
      by_cases x : i = e
      · subst x; exact hc
      · exact h3 i (by omega) i2
    · refine y20_out F h9 h10 h11 mem h hc ?_
      intro a' F' k9 k10 k11
      exact hQ a' e F' k9 k10 k11 (Nat.le_refl _) he (fun i h1 h2 => by omega) (.inr hc)

theorem look0 {Y : Y10} {Q : Exit → Act → World → Prop} (good : Cm.Good Y.n Y.l (Cm.sl Y.o Y.m) Y.c Y.n) (k : Nat) : ∀ (a : Act) (w : World) (s : Nat), F10 Y a → get a 9 = .int .i64 (Cm.un Y.c s : Int) → get a 10 = .int .i64 (s : Int) → M10 Y w → s ≤ Y.n → Y.n - s ≤ k → (Y.c s = true → s < Y.n → Cm.Top Y.c s) →
    (∀ a' q, F10 Y a' → Q (.exit 0) a' (w.drewN q)) →
    Code.rounds Try.prog (sub2 [true, true, true, true, true, true, true, true, true, true, true, false, true, false, false] (bodyOf Try.f10)) Q (k + 1) a w := by
  induction k with
  | zero =>
    intro a w s F h9 h10 mem hs hk edge hQ
    rw [rounds_succ, zx1]
    refine wp_seq ?_
    refine y15_out F h9 h10 mem (by omega) ?_
    intro a' F' k9 k10
    exact hQ a' 0 F'
  | succ k ih =>
    intro a w s F h9 h10 mem hs hk edge hQ
    have hul := Cm.un_le Y.c s
    have hn := mem.n
    rw [rounds_succ, zx1]
    refine wp_seq ?_
    by_cases hlt : s < Y.n
    case neg =>
      refine y15_out F h9 h10 mem (by omega) ?_
      intro a' F' k9 k10
      exact hQ a' 0 F'
    refine y15_in F h9 h10 mem hlt ?_
    clear F h9 h10 a
    intro a F h9 h10
    show Code.wp Try.prog (sub2 [true, true, true, true, true, true, true, true, true, true, true, false, true, false, false, true] (bodyOf Try.f10)) _ a w
    rw [zx2]
    refine wp_block ?_
    rw [zx3]
    refine wp_seq ?_
    cases hc : Y.c s
    · refine y16_off F h9 h10 mem hlt hc hul ?_
      clear F h9 h10 a
      intro a F h9 h10
      show Code.rounds Try.prog (sub2 [true, true, true, true, true, true, true, true, true, true, true, false, true, false, false] (bodyOf Try.f10)) Q (k + 1) a w
      exact ih a w (s + 1) F (by rw [h9, Cm.un_off hc]; rfl) h10 mem hlt (by omega) (fun _ _ => .inr (by simpa using hc)) hQ
    · refine y16_on F h9 h10 mem hlt hc ?_
      clear F h9 h10 a
      intro a F h9 h10
      show Code.wp Try.prog (sub2 [true, true, true, true, true, true, true, true, true, true, true, false, true, false, false, true, false, true] (bodyOf Try.f10)) _ a w
      rw [zx4]
      refine wp_seq ?_
      refine y19 F h9 h10 mem ?_
      clear F h9 h10 a
      intro a F h9 h10 h11
      show Code.wp Try.prog (sub2 [true, true, true, true, true, true, true, true, true, true, true, false, true, false, false, true, false, true, true] (bodyOf Try.f10)) _ a w
      rw [zx5]
      refine wp_seq ?_
      rw [zx5b]
      refine wp_block ?_
      rw [zx5o]
      refine wp_loop_rounds (Y.n - s + 1) ?_
      refine scan20 mem (Y.n - s) a s F h9 h10 h11 hs (Nat.le_refl _) ?_
      clear F h9 h10 h11 a
      intro a e F h9 h10 h11 h1 h2 h3 h4
      have hse : s < e := by
        rcases Nat.lt_or_ge s e with x | x
        · exact x
        · obtain rfl : e = s := by omega
          rcases h4 with y | y
          · omega
          · rw [hc] at y; exact absurd y (by simp)
      have run : Cm.Run Y.n Y.c s e := ⟨hse, h2, h3, edge hc hlt, h4⟩
      have hun := Cm.un_run (c := Y.c) (s := s) (e := e) (by omega) h3
      show Code.wp Try.prog (sub2 [true, true, true, true, true, true, true, true, true, true, true, false, true, false, false, true, false, true, true, true] (bodyOf Try.f10)) _ a w
      rw [zx6]
      refine wp_seq ?_
      have rest : ∀ a' q, F10 Y a' → get a' 9 = .int .i64 (Cm.un Y.c s : Int) → get a' 10 = .int .i64 (s : Int) → get a' 11 = .int .i64 (e : Int) → Code.wp Try.prog (sub2 [true, true, true, true, true, true, true, true, true, true, true, false, true, false, false, true, false, true, true, true, true] (bodyOf Try.f10)) (Exit.inBlock 1 (Exit.then (Code.rounds Try.prog (sub2 [true, true, true, true, true, true, true, true, true, true, true, false, true, false, false] (bodyOf Try.f10)) Q (k + 1)) Q)) a' (w.drewN q) := by
        intro a' q F' k9 k10 k11
        refine y24 F' k9 k10 k11 (mem.drewN q) ?_
        intro a2 F2 j9 j10
        rw [← hun] at j9
        refine ih a2 (w.drewN q) e F2 j9 j10 (mem.drewN q) h2 (by omega) (fun c1 c2 => ?_) ?_
        · rcases h4 with y | y
          · omega
          · rw [c1] at y; exact absurd y (by simp)
        · intro a3 q3 F3
          have := hQ a3 (q + q3) F3
          rwa [World.drewN_drewN]
      by_cases hen : e < Y.n
      case neg => exact y22_end F h9 h10 h11 mem (by omega) (fun a' q F' k9 k10 k11 => rest a' q F' k9 k10 k11)
      by_cases heq : Y.l s = Y.l e
      · exact y22_eq F h9 h10 h11 mem hse hen heq (by omega) (good.no run hen heq) (fun a' q F' k9 k10 k11 => rest a' q F' k9 k10 k11)
      · exact y22_ne F h9 h10 h11 mem hse hen heq (fun a' q F' k9 k10 k11 => rest a' q F' k9 k10 k11)
end Go.Proofs.Qxb6601687a
