/-
  THE WALK OF zzLcs (function 34) and zzEditDistance (function 22).
-/
import Derived.Test.Qxb6601687aCompA
import Derived.Test.Qxb6601687aGuards
namespace Go.Proofs.Qxb6601687a
open Go.RowKit
set_option linter.unusedVariables false
set_option linter.unusedSimpArgs false

set_option maxRecDepth 100000 in
theorem lit34 (a : Act) (hd : a.defers = []) (hs : a.tmps.size = 83) : a = ⟨#[get a 0, get a 1, get a 2, get a 3, get a 4, get a 5, get a 6, get a 7, get a 8, get a 9, get a 10, get a 11, get a 12, get a 13, get a 14, get a 15, get a 16, get a 17, get a 18, get a 19, get a 20, get a 21, get a 22, get a 23, get a 24, get a 25, get a 26, get a 27, get a 28, get a 29, get a 30, get a 31, get a 32, get a 33, get a 34, get a 35, get a 36, get a 37, get a 38, get a 39, get a 40, get a 41, get a 42, get a 43, get a 44, get a 45, get a 46, get a 47, get a 48, get a 49, get a 50, get a 51, get a 52, get a 53, get a 54, get a 55, get a 56, get a 57, get a 58, get a 59, get a 60, get a 61, get a 62, get a 63, get a 64, get a 65, get a 66, get a 67, get a 68, get a 69, get a 70, get a 71, get a 72, get a 73, get a 74, get a 75, get a 76, get a 77, get a 78, get a 79, get a 80, get a 81, get a 82], []⟩ := act_eq a 83 hd hs

/-- a slice of int32 that is read: its elements f -/
structure Rd (w : World) (a : Option Addr) (b o n : Nat) (f : Nat → Int) : Prop where
  at_ : 0 < n → a = some ⟨b, o, none⟩
  lt : 0 < n → b < w.heap.size
  cells : ∀ i, i < n → w.cell? ⟨b, o + i, none⟩ = some (.int .i32 (f i))
  len : n ≤ 1024

/-- a row of ints -/
def Ln (w : World) (b n : Nat) (p : Nat → Int) : Prop := ∃ arr, w.heap[b]? = some (.cells arr 3 (0, 0)) ∧ arr.size = n ∧ ∀ t, t < n → arr[t]? = some (.int .i64 (p t))
theorem Ln.cell {w b n p} (h : Ln w b n p) (t : Nat) (ht : t < n) : w.cell? ⟨b, t, none⟩ = some (.int .i64 (p t)) := by
  obtain ⟨arr, h1, h2, h3⟩ := h
  simp [World.cell?, h1, h3 t ht]
theorem Ln.fz {w b n p} (h : Ln w b n p) (t : Nat) : w.frozen? ⟨b, t, none⟩ = false := by
  obtain ⟨arr, h1, h2, h3⟩ := h
  simp [World.frozen?, h1]
theorem Ln.of_block {w w' : World} {b n p} (h : Ln w b n p) (he : w'.heap[b]? = w.heap[b]?) : Ln w' b n p := by
  obtain ⟨arr, h1, h2, h3⟩ := h
  exact ⟨arr, he.trans h1, h2, h3⟩
theorem Ln.set {w b n p} (h : Ln w b n p) (j : Nat) (hj : j < n) (v : Int) : Ln (w.setCell ⟨b, j, none⟩ (.int .i64 v)) b n (fun t => if t = j then v else p t) := by
  obtain ⟨arr, h1, h2, h3⟩ := h
  refine ⟨arr.setIfInBounds j (.int .i64 v), heap_setCell_at _ _ _ _ _ _ _ h1, by simpa using h2, fun t ht => ?_⟩
  by_cases htj : t = j
  · subst htj; show _ = some (Value.int .i64 (if t = t then v else p t)); rw [if_pos rfl, Array.getElem?_setIfInBounds_self_of_lt (by omega)]
  · show _ = some (Value.int .i64 (if t = j then v else p t)); rw [if_neg htj, Array.getElem?_setIfInBounds_ne (by omega)]; exact h3 t ht

structure X34 where
  (ax ay : Option Addr)
  (bx ox by_ oy lx cx ly cy B0 : Nat)
  (f g : Nat → Int)

structure Fz (X : X34) (a : Act) : Prop where
  d : a.defers = []
  s : a.tmps.size = 83
  g0 : get a 0 = .slice X.ax X.lx X.cx
  g1 : get a 1 = .slice X.ay X.ly X.cy

/-- the memory: the rows at pb, cb; all below B0 as it was -/
structure T34 (X : X34) (w0 w : World) (pb cb : Nat) (p c : Nat → Int) : Prop where
  bel : Below X.B0 w0 w
  B0 : X.B0 = w0.heap.size
  hp : Ln w pb (X.ly + 1) p
  hc : Ln w cb (X.ly + 1) c
  p0 : X.B0 ≤ pb
  c0 : X.B0 ≤ cb
  ne : pb ≠ cb
  rx : Rd w0 X.ax X.bx X.ox X.lx X.f
  ry : Rd w0 X.ay X.by_ X.oy X.ly X.g
  pr : ∀ t, 0 ≤ p t ∧ p t ≤ 1024
  cr : ∀ t, 0 ≤ c t ∧ c t ≤ 1024

theorem T34.x {X w0 w pb cb p c} (h : T34 X w0 w pb cb p c) (i : Nat) (hi : i < X.lx) : w.cell? ⟨X.bx, X.ox + i, none⟩ = some (.int .i32 (X.f i)) := by
  rw [h.bel.cell (p := ⟨X.bx, X.ox + i, none⟩) (by rw [h.B0]; exact h.rx.lt (by omega))]; exact h.rx.cells i hi
theorem T34.y {X w0 w pb cb p c} (h : T34 X w0 w pb cb p c) (i : Nat) (hi : i < X.ly) : w.cell? ⟨X.by_, X.oy + i, none⟩ = some (.int .i32 (X.g i)) := by
  rw [h.bel.cell (p := ⟨X.by_, X.oy + i, none⟩) (by rw [h.B0]; exact h.ry.lt (by omega))]; exact h.ry.cells i hi
theorem T34.set {X w0 w pb cb p c} (h : T34 X w0 w pb cb p c) (q j : Nat) (hj : j < X.ly + 1) (v : Int) (hv : 0 ≤ v ∧ v ≤ 1024) : T34 X w0 ((w.drewN q).setCell ⟨cb, j, none⟩ (.int .i64 v)) pb cb p (fun t => if t = j then v else c t) := by
  have hb : Below X.B0 w0 (w.drewN q) := h.bel.trans ⟨rfl, rfl, rfl, Nat.le_refl _, fun _ _ => rfl⟩
  have hc' : Ln (w.drewN q) cb (X.ly + 1) c := h.hc
  have hp' : Ln (w.drewN q) pb (X.ly + 1) p := h.hp
  refine ⟨hb.setCell h.c0 _, h.B0, hp'.of_block (Below.heap_setCell _ _ _ _ (by exact h.ne)), hc'.set j hj v, h.p0, h.c0, h.ne, h.rx, h.ry, h.pr, fun t => ?_⟩
  show 0 ≤ (if t = j then v else c t) ∧ (if t = j then v else c t) ≤ 1024
  split
  · exact hv
  · exact h.cr t

set_option maxHeartbeats 1000000 in
set_option maxRecDepth 100000 in
theorem lH_in {X : X34} {a : Act} {w : World} {pb cb i : Nat} {Q : Exit → Act → World → Prop} (hF : Fz X a)  (h5 : get a 5 = .slice (some ⟨pb, 0, none⟩) (X.ly + 1) (X.ly + 1)) (h6 : get a 6 = .slice (some ⟨cb, 0, none⟩) (X.ly + 1) (X.ly + 1)) (h7 : get a 7 = .int .i64 (i : Int)) (hi : i < X.lx) (hl : X.lx ≤ 1024)
    (hQ : Hid (∀ a', Fz X a' → get a' 5 = .slice (some ⟨pb, 0, none⟩) (X.ly + 1) (X.ly + 1) → get a' 6 = .slice (some ⟨cb, 0, none⟩) (X.ly + 1) (X.ly + 1) → get a' 7 = .int .i64 (i : Int) → Q .normal a' w)) :
    Code.wp Try.prog (sub2 [true, true, true, false, true, false, false, false] (bodyOf Try.f34)) Q a w := by
  conv => arg 2; whnf
  obtain ⟨hd, hs, g0, g1⟩ := hF
  have hib : (i : Int) < X.lx := by omega
  rw [lit34 a hd hs]
  generalize get a = g at *
  simp only [g0, g1, h5, h6, h7]
  clear hd hs g0 g1 h5 h6 h7
  go_wp2
  exact hQ.out _ ⟨rfl, rfl, rfl, rfl⟩ rfl rfl rfl
set_option maxHeartbeats 1000000 in
set_option maxRecDepth 100000 in
theorem lH_out {X : X34} {a : Act} {w : World} {pb cb i : Nat} {Q : Exit → Act → World → Prop} (hF : Fz X a)  (h5 : get a 5 = .slice (some ⟨pb, 0, none⟩) (X.ly + 1) (X.ly + 1)) (h6 : get a 6 = .slice (some ⟨cb, 0, none⟩) (X.ly + 1) (X.ly + 1)) (h7 : get a 7 = .int .i64 (i : Int)) (hi : X.lx ≤ i)
    (hQ : Hid (∀ a', Fz X a' → get a' 5 = .slice (some ⟨pb, 0, none⟩) (X.ly + 1) (X.ly + 1) → get a' 6 = .slice (some ⟨cb, 0, none⟩) (X.ly + 1) (X.ly + 1) → get a' 7 = .int .i64 (i : Int) → Q (.exit 0) a' w)) :
    Code.wp Try.prog (sub2 [true, true, true, false, true, false, false, false] (bodyOf Try.f34)) Q a w := by
  conv => arg 2; whnf
  obtain ⟨hd, hs, g0, g1⟩ := hF
  have hib : (X.lx : Int) ≤ i := by omega
  rw [lit34 a hd hs]
  generalize get a = g at *
  simp only [g0, g1, h5, h6, h7]
  clear hd hs g0 g1 h5 h6 h7
  go_wp2
  exact hQ.out _ ⟨rfl, rfl, rfl, rfl⟩ rfl rfl rfl
set_option maxHeartbeats 1000000 in
set_option maxRecDepth 100000 in
theorem l6 {X : X34} {a : Act} {w0 w : World} {p c : Nat → Int} {pb cb i : Nat} {Q : Exit → Act → World → Prop} (hF : Fz X a)  (h5 : get a 5 = .slice (some ⟨pb, 0, none⟩) (X.ly + 1) (X.ly + 1)) (h6 : get a 6 = .slice (some ⟨cb, 0, none⟩) (X.ly + 1) (X.ly + 1)) (h7 : get a 7 = .int .i64 (i : Int)) (mem : T34 X w0 w pb cb p c)
    (hQ : Hid (∀ a' w', Fz X a' → get a' 5 = .slice (some ⟨pb, 0, none⟩) (X.ly + 1) (X.ly + 1) → get a' 6 = .slice (some ⟨cb, 0, none⟩) (X.ly + 1) (X.ly + 1) → get a' 7 = .int .i64 (i : Int) → T34 X w0 w' pb cb p (fun t => if t = 0 then 0 else c t) → Q .normal a' w')) :
    Code.wp Try.prog (sub2 [true, true, true, false, true, false, false, true, false, false, false] (bodyOf Try.f34)) Q a w := by
  conv => arg 2; whnf
  obtain ⟨hd, hs, g0, g1⟩ := hF
  have cc := mem.hc.cell 0 (by omega)
  have cz := mem.hc.fz 0
  rw [lit34 a hd hs]
  generalize get a = g at *
  simp only [g0, g1, h5, h6, h7]
  clear hd hs g0 g1 h5 h6 h7
  have MEM : Hid (T34 X w0 w pb cb p c) := mem
  clear mem
  go_wp2
  exact hQ.out _ _ ⟨rfl, rfl, rfl, rfl⟩ rfl rfl rfl (MEM.out.set 0 0 (by omega) 0 (by omega))
set_option maxHeartbeats 1000000 in
set_option maxRecDepth 100000 in
theorem l7 {X : X34} {a : Act} {w : World} {pb cb i : Nat} {Q : Exit → Act → World → Prop} (hF : Fz X a)  (h5 : get a 5 = .slice (some ⟨pb, 0, none⟩) (X.ly + 1) (X.ly + 1)) (h6 : get a 6 = .slice (some ⟨cb, 0, none⟩) (X.ly + 1) (X.ly + 1)) (h7 : get a 7 = .int .i64 (i : Int)) 
    (hQ : Hid (∀ a', Fz X a' → get a' 5 = .slice (some ⟨pb, 0, none⟩) (X.ly + 1) (X.ly + 1) → get a' 6 = .slice (some ⟨cb, 0, none⟩) (X.ly + 1) (X.ly + 1) → get a' 7 = .int .i64 (i : Int) → get a' 8 = .int .i64 0 → Q .normal a' w)) :
    Code.wp Try.prog (sub2 [true, true, true, false, true, false, false, true, false, false, true, false, false] (bodyOf Try.f34)) Q a w := by
  conv => arg 2; whnf
  obtain ⟨hd, hs, g0, g1⟩ := hF
  rw [lit34 a hd hs]
  generalize get a = g at *
  simp only [g0, g1, h5, h6, h7]
  clear hd hs g0 g1 h5 h6 h7
  go_wp2
  exact hQ.out _ ⟨rfl, rfl, rfl, rfl⟩ rfl rfl rfl rfl
set_option maxHeartbeats 1000000 in
set_option maxRecDepth 100000 in
theorem jH_in {X : X34} {a : Act} {w : World} {pb cb i j : Nat} {Q : Exit → Act → World → Prop} (hF : Fz X a)  (h5 : get a 5 = .slice (some ⟨pb, 0, none⟩) (X.ly + 1) (X.ly + 1)) (h6 : get a 6 = .slice (some ⟨cb, 0, none⟩) (X.ly + 1) (X.ly + 1)) (h7 : get a 7 = .int .i64 (i : Int)) (h8 : get a 8 = .int .i64 (j : Int)) (hj : j < X.ly) (hl : X.ly ≤ 1024)
    (hQ : Hid (∀ a', Fz X a' → get a' 5 = .slice (some ⟨pb, 0, none⟩) (X.ly + 1) (X.ly + 1) → get a' 6 = .slice (some ⟨cb, 0, none⟩) (X.ly + 1) (X.ly + 1) → get a' 7 = .int .i64 (i : Int) → get a' 8 = .int .i64 (j : Int) → Q .normal a' w)) :
    Code.wp Try.prog (sub2 [true, true, true, false, true, false, false, true, false, false, true, false, true, false, false, false] (bodyOf Try.f34)) Q a w := by
  conv => arg 2; whnf
  obtain ⟨hd, hs, g0, g1⟩ := hF
  have hjb : (j : Int) < X.ly := by omega
  rw [lit34 a hd hs]
  generalize get a = g at *
  simp only [g0, g1, h5, h6, h7, h8]
  clear hd hs g0 g1 h5 h6 h7 h8
  go_wp2
  exact hQ.out _ ⟨rfl, rfl, rfl, rfl⟩ rfl rfl rfl rfl
set_option maxHeartbeats 1000000 in
set_option maxRecDepth 100000 in
theorem jH_out {X : X34} {a : Act} {w : World} {pb cb i j : Nat} {Q : Exit → Act → World → Prop} (hF : Fz X a)  (h5 : get a 5 = .slice (some ⟨pb, 0, none⟩) (X.ly + 1) (X.ly + 1)) (h6 : get a 6 = .slice (some ⟨cb, 0, none⟩) (X.ly + 1) (X.ly + 1)) (h7 : get a 7 = .int .i64 (i : Int)) (h8 : get a 8 = .int .i64 (j : Int)) (hj : X.ly ≤ j)
    (hQ : Hid (∀ a', Fz X a' → get a' 5 = .slice (some ⟨pb, 0, none⟩) (X.ly + 1) (X.ly + 1) → get a' 6 = .slice (some ⟨cb, 0, none⟩) (X.ly + 1) (X.ly + 1) → get a' 7 = .int .i64 (i : Int) → Q (.exit 2) a' w)) :
    Code.wp Try.prog (sub2 [true, true, true, false, true, false, false, true, false, false, true, false, true, false, false, false] (bodyOf Try.f34)) Q a w := by
  conv => arg 2; whnf
  obtain ⟨hd, hs, g0, g1⟩ := hF
  have hjb : (X.ly : Int) ≤ j := by omega
  rw [lit34 a hd hs]
  generalize get a = g at *
  simp only [g0, g1, h5, h6, h7, h8]
  clear hd hs g0 g1 h5 h6 h7 h8
  go_wp2
  exact hQ.out _ ⟨rfl, rfl, rfl, rfl⟩ rfl rfl rfl
set_option maxHeartbeats 1000000 in
set_option maxRecDepth 100000 in
theorem l10_eq {X : X34} {a : Act} {w0 w : World} {p c : Nat → Int} {pb cb i j : Nat} {Q : Exit → Act → World → Prop} (hF : Fz X a)  (h5 : get a 5 = .slice (some ⟨pb, 0, none⟩) (X.ly + 1) (X.ly + 1)) (h6 : get a 6 = .slice (some ⟨cb, 0, none⟩) (X.ly + 1) (X.ly + 1)) (h7 : get a 7 = .int .i64 (i : Int)) (h8 : get a 8 = .int .i64 (j : Int)) (mem : T34 X w0 w pb cb p c) (hi : i < X.lx) (hj : j < X.ly) (heq : (X.f i == X.g j) = true) (hp1 : p j + 1 ≤ 1024)
    (hQ : Hid (∀ a' w', Fz X a' → get a' 5 = .slice (some ⟨pb, 0, none⟩) (X.ly + 1) (X.ly + 1) → get a' 6 = .slice (some ⟨cb, 0, none⟩) (X.ly + 1) (X.ly + 1) → get a' 7 = .int .i64 (i : Int) → get a' 8 = .int .i64 (j : Int) → T34 X w0 w' pb cb p (fun t => if t = j + 1 then (if X.f i = X.g j then p j + 1 else max (p (j + 1)) (c j)) else c t) → Q .normal a' w')) :
    Code.wp Try.prog (sub2 [true, true, true, false, true, false, false, true, false, false, true, false, true, false, false, true, false] (bodyOf Try.f34)) Q a w := by
  conv => arg 2; whnf
  obtain ⟨hd, hs, g0, g1⟩ := hF
  have cX := mem.x i hi
  have cY := mem.y j hj
  have ex := mem.rx.at_ (by omega)
  have ey := mem.ry.at_ (by omega)
  rw [ex] at g0
  rw [ey] at g1
  have zx := mem.rx.len
  have zy := mem.ry.len
  have pj := mem.hp.cell j (by omega)
  have pj1 := mem.hp.cell (j + 1) (by omega)
  have cj := mem.hc.cell j (by omega)
  have cj1 := mem.hc.cell (j + 1) (by omega)
  have cz := mem.hc.fz (j + 1)
  have rp := mem.pr j
  have rp1 := mem.pr (j + 1)
  have rc := mem.cr j
  have hib : (i : Int) < X.lx := by omega
  have hjb : (j : Int) < X.ly := by omega
  have MEM : Hid (T34 X w0 w pb cb p c) := mem
  have EX : Hid (X.ax = some ⟨X.bx, X.ox, none⟩) := ex
  have EY : Hid (X.ay = some ⟨X.by_, X.oy, none⟩) := ey
  clear ex ey mem
  rw [lit34 a hd hs]
  generalize get a = g at *
  simp only [g0, g1, h5, h6, h7, h8]
  clear hd hs g0 g1 h5 h6 h7 h8
  go_wp2
  go_quiet (fail)
  go_wp2
  refine hQ.out _ _ ⟨rfl, rfl, by rw [EX.out]; rfl, by rw [EY.out]; rfl⟩ rfl rfl rfl rfl ?_
  rw [if_pos (beq_iff_eq.1 heq)]
  exact MEM.out.set _ (j + 1) (by omega) _ (by omega)
set_option maxHeartbeats 1000000 in
set_option maxRecDepth 100000 in
theorem l10_p {X : X34} {a : Act} {w0 w : World} {p c : Nat → Int} {pb cb i j : Nat} {Q : Exit → Act → World → Prop} (hF : Fz X a)  (h5 : get a 5 = .slice (some ⟨pb, 0, none⟩) (X.ly + 1) (X.ly + 1)) (h6 : get a 6 = .slice (some ⟨cb, 0, none⟩) (X.ly + 1) (X.ly + 1)) (h7 : get a 7 = .int .i64 (i : Int)) (h8 : get a 8 = .int .i64 (j : Int)) (mem : T34 X w0 w pb cb p c) (hi : i < X.lx) (hj : j < X.ly) (heq : (X.f i == X.g j) = false) (hge : c j ≤ p (j + 1))
    (hQ : Hid (∀ a' w', Fz X a' → get a' 5 = .slice (some ⟨pb, 0, none⟩) (X.ly + 1) (X.ly + 1) → get a' 6 = .slice (some ⟨cb, 0, none⟩) (X.ly + 1) (X.ly + 1) → get a' 7 = .int .i64 (i : Int) → get a' 8 = .int .i64 (j : Int) → T34 X w0 w' pb cb p (fun t => if t = j + 1 then (if X.f i = X.g j then p j + 1 else max (p (j + 1)) (c j)) else c t) → Q .normal a' w')) :
    Code.wp Try.prog (sub2 [true, true, true, false, true, false, false, true, false, false, true, false, true, false, false, true, false] (bodyOf Try.f34)) Q a w := by
  conv => arg 2; whnf
  obtain ⟨hd, hs, g0, g1⟩ := hF
  have cX := mem.x i hi
  have cY := mem.y j hj
  have ex := mem.rx.at_ (by omega)
  have ey := mem.ry.at_ (by omega)
  rw [ex] at g0
  rw [ey] at g1
  have zx := mem.rx.len
  have zy := mem.ry.len
  have pj := mem.hp.cell j (by omega)
  have pj1 := mem.hp.cell (j + 1) (by omega)
  have cj := mem.hc.cell j (by omega)
  have cj1 := mem.hc.cell (j + 1) (by omega)
  have cz := mem.hc.fz (j + 1)
  have rp := mem.pr j
  have rp1 := mem.pr (j + 1)
  have rc := mem.cr j
  have hib : (i : Int) < X.lx := by omega
  have hjb : (j : Int) < X.ly := by omega
  have MEM : Hid (T34 X w0 w pb cb p c) := mem
  have EX : Hid (X.ax = some ⟨X.bx, X.ox, none⟩) := ex
  have EY : Hid (X.ay = some ⟨X.by_, X.oy, none⟩) := ey
  clear ex ey mem
  rw [lit34 a hd hs]
  generalize get a = g at *
  simp only [g0, g1, h5, h6, h7, h8]
  clear hd hs g0 g1 h5 h6 h7 h8
  go_wp2
  go_quiet (fail)
  go_wp2
  go_quiet (fail)
  go_wp2
  refine hQ.out _ _ ⟨rfl, rfl, by rw [EX.out]; rfl, by rw [EY.out]; rfl⟩ rfl rfl rfl rfl ?_
  rw [if_neg (beq_eq_false_iff_ne.1 heq), show max (p (j + 1)) (c j) = p (j + 1) by omega]
  exact MEM.out.set _ (j + 1) (by omega) _ (by omega)
set_option maxHeartbeats 1000000 in
set_option maxRecDepth 100000 in
theorem l10_c {X : X34} {a : Act} {w0 w : World} {p c : Nat → Int} {pb cb i j : Nat} {Q : Exit → Act → World → Prop} (hF : Fz X a)  (h5 : get a 5 = .slice (some ⟨pb, 0, none⟩) (X.ly + 1) (X.ly + 1)) (h6 : get a 6 = .slice (some ⟨cb, 0, none⟩) (X.ly + 1) (X.ly + 1)) (h7 : get a 7 = .int .i64 (i : Int)) (h8 : get a 8 = .int .i64 (j : Int)) (mem : T34 X w0 w pb cb p c) (hi : i < X.lx) (hj : j < X.ly) (heq : (X.f i == X.g j) = false) (hge : p (j + 1) < c j)
    (hQ : Hid (∀ a' w', Fz X a' → get a' 5 = .slice (some ⟨pb, 0, none⟩) (X.ly + 1) (X.ly + 1) → get a' 6 = .slice (some ⟨cb, 0, none⟩) (X.ly + 1) (X.ly + 1) → get a' 7 = .int .i64 (i : Int) → get a' 8 = .int .i64 (j : Int) → T34 X w0 w' pb cb p (fun t => if t = j + 1 then (if X.f i = X.g j then p j + 1 else max (p (j + 1)) (c j)) else c t) → Q .normal a' w')) :
    Code.wp Try.prog (sub2 [true, true, true, false, true, false, false, true, false, false, true, false, true, false, false, true, false] (bodyOf Try.f34)) Q a w := by
  conv => arg 2; whnf
  obtain ⟨hd, hs, g0, g1⟩ := hF
  have cX := mem.x i hi
  have cY := mem.y j hj
  have ex := mem.rx.at_ (by omega)
  have ey := mem.ry.at_ (by omega)
  rw [ex] at g0
  rw [ey] at g1
  have zx := mem.rx.len
  have zy := mem.ry.len
  have pj := mem.hp.cell j (by omega)
  have pj1 := mem.hp.cell (j + 1) (by omega)
  have cj := mem.hc.cell j (by omega)
  have cj1 := mem.hc.cell (j + 1) (by omega)
  have cz := mem.hc.fz (j + 1)
  have rp := mem.pr j
  have rp1 := mem.pr (j + 1)
  have rc := mem.cr j
  have hib : (i : Int) < X.lx := by omega
  have hjb : (j : Int) < X.ly := by omega
  have MEM : Hid (T34 X w0 w pb cb p c) := mem
  have EX : Hid (X.ax = some ⟨X.bx, X.ox, none⟩) := ex
  have EY : Hid (X.ay = some ⟨X.by_, X.oy, none⟩) := ey
  clear ex ey mem
  rw [lit34 a hd hs]
  generalize get a = g at *
  simp only [g0, g1, h5, h6, h7, h8]
  clear hd hs g0 g1 h5 h6 h7 h8
  go_wp2
  go_quiet (fail)
  go_wp2
  go_quiet (fail)
  go_wp2
  refine hQ.out _ _ ⟨rfl, rfl, by rw [EX.out]; rfl, by rw [EY.out]; rfl⟩ rfl rfl rfl rfl ?_
  rw [if_neg (beq_eq_false_iff_ne.1 heq), show max (p (j + 1)) (c j) = c j by omega]
  exact MEM.out.set _ (j + 1) (by omega) _ (by omega)
set_option maxHeartbeats 1000000 in
set_option maxRecDepth 100000 in
theorem l9 {X : X34} {a : Act} {w : World} {pb cb i j : Nat} {Q : Exit → Act → World → Prop} (hF : Fz X a)  (h5 : get a 5 = .slice (some ⟨pb, 0, none⟩) (X.ly + 1) (X.ly + 1)) (h6 : get a 6 = .slice (some ⟨cb, 0, none⟩) (X.ly + 1) (X.ly + 1)) (h7 : get a 7 = .int .i64 (i : Int)) (h8 : get a 8 = .int .i64 (j : Int)) (hj : j < 2000)
    (hQ : Hid (∀ a', Fz X a' → get a' 5 = .slice (some ⟨pb, 0, none⟩) (X.ly + 1) (X.ly + 1) → get a' 6 = .slice (some ⟨cb, 0, none⟩) (X.ly + 1) (X.ly + 1) → get a' 7 = .int .i64 (i : Int) → get a' 8 = .int .i64 ((j : Int) + 1) → Q .normal a' w)) :
    Code.wp Try.prog (sub2 [true, true, true, false, true, false, false, true, false, false, true, false, true, false, false, true, true] (bodyOf Try.f34)) Q a w := by
  conv => arg 2; whnf
  obtain ⟨hd, hs, g0, g1⟩ := hF
  rw [lit34 a hd hs]
  generalize get a = g at *
  simp only [g0, g1, h5, h6, h7, h8]
  clear hd hs g0 g1 h5 h6 h7 h8
  go_wp2
  exact hQ.out _ ⟨rfl, rfl, rfl, rfl⟩ rfl rfl rfl rfl
set_option maxHeartbeats 1000000 in
set_option maxRecDepth 100000 in
theorem l15 {X : X34} {a : Act} {w : World} {pb cb i : Nat} {Q : Exit → Act → World → Prop} (hF : Fz X a)  (h5 : get a 5 = .slice (some ⟨pb, 0, none⟩) (X.ly + 1) (X.ly + 1)) (h6 : get a 6 = .slice (some ⟨cb, 0, none⟩) (X.ly + 1) (X.ly + 1)) (h7 : get a 7 = .int .i64 (i : Int)) 
    (hQ : Hid (∀ a', Fz X a' → get a' 5 = .slice (some ⟨cb, 0, none⟩) (X.ly + 1) (X.ly + 1) → get a' 6 = .slice (some ⟨pb, 0, none⟩) (X.ly + 1) (X.ly + 1) → get a' 7 = .int .i64 (i : Int) → Q .normal a' w)) :
    Code.wp Try.prog (sub2 [true, true, true, false, true, false, false, true, false, false, true, true] (bodyOf Try.f34)) Q a w := by
  conv => arg 2; whnf
  obtain ⟨hd, hs, g0, g1⟩ := hF
  rw [lit34 a hd hs]
  generalize get a = g at *
  simp only [g0, g1, h5, h6, h7]
  clear hd hs g0 g1 h5 h6 h7
  go_wp2
  exact hQ.out _ ⟨rfl, rfl, rfl, rfl⟩ rfl rfl rfl
set_option maxHeartbeats 1000000 in
set_option maxRecDepth 100000 in
theorem l5 {X : X34} {a : Act} {w : World} {pb cb i : Nat} {Q : Exit → Act → World → Prop} (hF : Fz X a)  (h5 : get a 5 = .slice (some ⟨pb, 0, none⟩) (X.ly + 1) (X.ly + 1)) (h6 : get a 6 = .slice (some ⟨cb, 0, none⟩) (X.ly + 1) (X.ly + 1)) (h7 : get a 7 = .int .i64 (i : Int)) (hi : i < 2000)
    (hQ : Hid (∀ a', Fz X a' → get a' 5 = .slice (some ⟨pb, 0, none⟩) (X.ly + 1) (X.ly + 1) → get a' 6 = .slice (some ⟨cb, 0, none⟩) (X.ly + 1) (X.ly + 1) → get a' 7 = .int .i64 ((i : Int) + 1) → Q .normal a' w)) :
    Code.wp Try.prog (sub2 [true, true, true, false, true, false, false, true, true] (bodyOf Try.f34)) Q a w := by
  conv => arg 2; whnf
  obtain ⟨hd, hs, g0, g1⟩ := hF
  rw [lit34 a hd hs]
  generalize get a = g at *
  simp only [g0, g1, h5, h6, h7]
  clear hd hs g0 g1 h5 h6 h7
  go_wp2
  exact hQ.out _ ⟨rfl, rfl, rfl, rfl⟩ rfl rfl rfl
end Go.Proofs.Qxb6601687a
