/-
  THE WALK OF middleSnake (function 33), part 1: the frame, the memory, the forward row.
-/
import Derived.Test.Qxb6601687aBase
import Derived.Test.Qxb6601687aMyers
namespace Go.Proofs.Qxb6601687a
open Go.RowKit
set_option linter.unusedVariables false
set_option linter.unusedSimpArgs false

/-- what stands fast while middleSnake runs -/
structure E33 where
  (pd fb gb ab bb N n m T : Nat)
  (la ca lb cb : Nat)
  (x0 y0 : Int)
  (va vb vd vi : Value)
  (A B : Nat → Int)

structure Fx (E : E33) (a : Act) : Prop where
  d : a.defers = []
  s : a.tmps.size = 437
  g0 : get a 0 = .pointer (some ⟨E.pd, 0, none⟩)
  g1 : get a 1 = .int .i64 E.x0
  g3 : get a 3 = .int .i64 E.y0
  g10 : get a 10 = .int .i64 0
  g11 : get a 11 = .int .i64 0
  g12 : get a 12 = .int .i64 0
  g13 : get a 13 = .int .i64 0
  g14 : get a 14 = .bool false
  g15 : get a 15 = .int .i64 E.n
  g16 : get a 16 = .int .i64 E.m
  g17 : get a 17 = .int .i64 ((E.n : Int) - E.m)
  g18 : get a 18 = .int .i64 ((E.m : Int) + 1)
  g19 : get a 19 = .slice (some ⟨E.fb, 0, none⟩) (E.n + E.m + 3) E.N
  g20 : get a 20 = .slice (some ⟨E.gb, 0, none⟩) (E.n + E.m + 3) E.N

/-- the frame in which it returns -/
structure Rt (a : Act) (x0 y0 x1 y1 : Int) (ok : Bool) : Prop where
  d : a.defers = []
  g10 : get a 10 = .int .i64 x0
  g11 : get a 11 = .int .i64 y0
  g12 : get a 12 = .int .i64 x1
  g13 : get a 13 = .int .i64 y1
  g14 : get a 14 = .bool ok

structure Sz (E : E33) : Prop where
  n : E.n ≤ 1024
  m : E.m ≤ 1024
  x0 : 0 ≤ E.x0
  y0 : 0 ≤ E.y0
  xn : E.x0 + E.n ≤ E.la
  ym : E.y0 + E.m ≤ E.lb
  la : E.la ≤ 1024
  lb : E.lb ≤ 1024
  N : E.n + E.m + 3 ≤ E.N
  NN : E.N ≤ 1000000
  d1 : E.pd ≠ E.fb
  d2 : E.pd ≠ E.gb
  d3 : E.fb ≠ E.gb
  d4 : E.ab ≠ E.pd
  d5 : E.ab ≠ E.fb
  d6 : E.ab ≠ E.gb
  d7 : E.bb ≠ E.pd
  d8 : E.bb ≠ E.fb
  d9 : E.bb ≠ E.gb
  va : 0 < E.n → E.va = .slice (some ⟨E.ab, 0, none⟩) E.la E.ca
  vb : 0 < E.m → E.vb = .slice (some ⟨E.bb, 0, none⟩) E.lb E.cb

def E33.a (E : E33) : Nat → Int := fun i => E.A (E.x0.toNat + i)
def E33.b (E : E33) : Nat → Int := fun i => E.B (E.y0.toNat + i)

/-- the memory in which it runs: F, G by diagonals; s steps left -/
structure Ok (E : E33) (w : World) (F G : Int → Int) (s : Int) : Prop where
  dd : w.heap[E.pd]? = some (.cells #[E.va, E.vb, E.vd, E.vi, .slice (some ⟨E.fb, 0, none⟩) E.N E.N, .slice (some ⟨E.gb, 0, none⟩) E.N E.N, .int .i64 s] E.T (0, 0))
  ff : ∃ arr, w.heap[E.fb]? = some (.cells arr 3 (0, 0)) ∧ arr.size = E.N ∧ ∀ k : Int, -E.m - 1 ≤ k → k ≤ E.n + 1 → arr[(k + (E.m + 1)).toNat]? = some (.int .i64 (F k))
  gg : ∃ arr, w.heap[E.gb]? = some (.cells arr 3 (0, 0)) ∧ arr.size = E.N ∧ ∀ k : Int, -E.m - 1 ≤ k → k ≤ E.n + 1 → arr[(k + (E.m + 1)).toNat]? = some (.int .i64 (G k))
  aa : ∀ i, i < E.la → w.cell? ⟨E.ab, i, none⟩ = some (.int .i32 (E.A i))
  bb : ∀ i, i < E.lb → w.cell? ⟨E.bb, i, none⟩ = some (.int .i32 (E.B i))
  fb : ∀ k, -1 ≤ F k ∧ F k ≤ E.n
  gb : ∀ k, -1 ≤ G k ∧ G k ≤ E.n
  fk : ∀ k, F k = -1 ∨ k ≤ F k
  gk : ∀ k, G k = -1 ∨ G k - k ≤ E.m

/-- only the three blocks have turned -/
structure Sm (E : E33) (w w' : World) : Prop where
  os : w'.os = w.os
  tape : w'.tape = w.tape
  output : w'.output = w.output
  size : w'.heap.size = w.heap.size
  block : ∀ k, k ≠ E.pd → k ≠ E.fb → k ≠ E.gb → w'.heap[k]? = w.heap[k]?

theorem Sm.refl (E : E33) (w : World) : Sm E w w := ⟨rfl, rfl, rfl, rfl, fun _ _ _ _ => rfl⟩
theorem Sm.trans {E : E33} {a b c : World} (h : Sm E a b) (k : Sm E b c) : Sm E a c :=
  ⟨k.os.trans h.os, k.tape.trans h.tape, k.output.trans h.output, k.size.trans h.size, fun i h1 h2 h3 => (k.block i h1 h2 h3).trans (h.block i h1 h2 h3)⟩
theorem Sm.drewN {E : E33} {a w : World} (h : Sm E a w) (n : Nat) : Sm E a (w.drewN n) := ⟨h.os, h.tape, h.output, h.size, h.block⟩
theorem Sm.setCell {E : E33} {a w : World} (h : Sm E a w) {p : Addr} (hp : p.block = E.pd ∨ p.block = E.fb ∨ p.block = E.gb) (u : Value) : Sm E a (w.setCell p u) :=
  h.trans ⟨rfl, rfl, rfl, by simp [World.setCell], fun k h1 h2 h3 => Below.heap_setCell _ _ _ _ (by omega)⟩

theorem Ok.f {E w F G s} (h : Ok E w F G s) (k : Int) (h1 : -E.m - 1 ≤ k) (h2 : k ≤ E.n + 1) : w.cell? ⟨E.fb, (k + (E.m + 1)).toNat, none⟩ = some (.int .i64 (F k)) := by
  obtain ⟨arr, h3, h4, h5⟩ := h.ff
  simp [World.cell?, h3, h5 k h1 h2]
theorem Ok.g {E w F G s} (h : Ok E w F G s) (k : Int) (h1 : -E.m - 1 ≤ k) (h2 : k ≤ E.n + 1) : w.cell? ⟨E.gb, (k + (E.m + 1)).toNat, none⟩ = some (.int .i64 (G k)) := by
  obtain ⟨arr, h3, h4, h5⟩ := h.gg
  simp [World.cell?, h3, h5 k h1 h2]
theorem Ok.ffz {E w F G s} (h : Ok E w F G s) (o : Nat) : w.frozen? ⟨E.fb, o, none⟩ = false := by
  obtain ⟨arr, h3, h4, h5⟩ := h.ff
  simp [World.frozen?, h3]
theorem Ok.gfz {E w F G s} (h : Ok E w F G s) (o : Nat) : w.frozen? ⟨E.gb, o, none⟩ = false := by
  obtain ⟨arr, h3, h4, h5⟩ := h.gg
  simp [World.frozen?, h3]
theorem Ok.dfz {E w F G s} (h : Ok E w F G s) (o : Nat) : w.frozen? ⟨E.pd, o, none⟩ = false := by
  simp [World.frozen?, h.dd]
theorem Ok.d0 {E w F G s} (h : Ok E w F G s) : w.cell? ⟨E.pd, 0, none⟩ = some E.va := by simp [World.cell?, h.dd]
theorem Ok.d1 {E w F G s} (h : Ok E w F G s) : w.cell? ⟨E.pd, 1, none⟩ = some E.vb := by simp [World.cell?, h.dd]
theorem Ok.d4 {E w F G s} (h : Ok E w F G s) : w.cell? ⟨E.pd, 4, none⟩ = some (.slice (some ⟨E.fb, 0, none⟩) E.N E.N) := by simp [World.cell?, h.dd]
theorem Ok.d5 {E w F G s} (h : Ok E w F G s) : w.cell? ⟨E.pd, 5, none⟩ = some (.slice (some ⟨E.gb, 0, none⟩) E.N E.N) := by simp [World.cell?, h.dd]
theorem Ok.d6 {E w F G s} (h : Ok E w F G s) : w.cell? ⟨E.pd, 6, none⟩ = some (.int .i64 s) := by simp [World.cell?, h.dd]

theorem heap_setCell_at (w : World) (b o : Nat) (v : Value) (c : Array Value) (t : TypeId) (fz : Nat × Nat) (h : w.heap[b]? = some (.cells c t fz)) : (w.setCell ⟨b, o, none⟩ v).heap[b]? = some (.cells (c.setIfInBounds o v) t fz) := by
  simp [World.setCell, Array.getElem?_modify, h]

theorem Ok.drewN {E w F G s} (h : Ok E w F G s) (n : Nat) : Ok E (w.drewN n) F G s := ⟨h.dd, h.ff, h.gg, h.aa, h.bb, h.fb, h.gb, h.fk, h.gk⟩

theorem Ok.setS {E w F G s} (h : Ok E w F G s) (sz : Sz E) (s' : Int) : Ok E (w.setCell ⟨E.pd, 6, none⟩ (.int .i64 s')) F G s' := by
  obtain ⟨arr, f3, f4, f5⟩ := h.ff
  obtain ⟨grr, g3, g4, g5⟩ := h.gg
  refine ⟨?_, ⟨arr, ?_, f4, f5⟩, ⟨grr, ?_, g4, g5⟩, fun i hi => ?_, fun i hi => ?_, h.fb, h.gb, h.fk, h.gk⟩
  · rw [heap_setCell_at _ _ _ _ _ _ _ h.dd]; rfl
  · rw [Below.heap_setCell _ _ _ _ (by exact sz.d1.symm)]; exact f3
  · rw [Below.heap_setCell _ _ _ _ (by exact sz.d2.symm)]; exact g3
  · rw [World.cell?_of_block (w := w) (Below.heap_setCell _ _ _ _ (by exact sz.d4))]; exact h.aa i hi
  · rw [World.cell?_of_block (w := w) (Below.heap_setCell _ _ _ _ (by exact sz.d7))]; exact h.bb i hi

theorem Ok.setF {E w F G s} (h : Ok E w F G s) (sz : Sz E) (k v : Int) (h1 : -E.m - 1 ≤ k) (h2 : k ≤ E.n + 1) (hv : -1 ≤ v ∧ v ≤ E.n) (hv2 : v = -1 ∨ k ≤ v) : Ok E (w.setCell ⟨E.fb, (k + (E.m + 1)).toNat, none⟩ (.int .i64 v)) (My.put F k v) G s := by
  obtain ⟨arr, f3, f4, f5⟩ := h.ff
  obtain ⟨grr, g3, g4, g5⟩ := h.gg
  refine ⟨?_, ⟨arr.setIfInBounds (k + (E.m + 1)).toNat (.int .i64 v), ?_, by simpa using f4, fun j hj1 hj2 => ?_⟩, ⟨grr, ?_, g4, g5⟩, fun i hi => ?_, fun i hi => ?_, fun j => ?_, h.gb, fun j => ?_, h.gk⟩
  · rw [Below.heap_setCell _ _ _ _ (by exact sz.d1)]; exact h.dd
  · exact heap_setCell_at _ _ _ _ _ _ _ f3
  · have hN := sz.N
    unfold My.put
    by_cases hjk : j = k
    · subst hjk
      rw [if_pos rfl, Array.getElem?_setIfInBounds_self_of_lt (by omega)]
    · rw [if_neg hjk, Array.getElem?_setIfInBounds_ne (by omega)]
      exact f5 j hj1 hj2
  · rw [Below.heap_setCell _ _ _ _ (by exact sz.d3.symm)]; exact g3
  · rw [World.cell?_of_block (w := w) (Below.heap_setCell _ _ _ _ (by exact sz.d5))]; exact h.aa i hi
  · rw [World.cell?_of_block (w := w) (Below.heap_setCell _ _ _ _ (by exact sz.d8))]; exact h.bb i hi
  · unfold My.put; split
    · exact hv
    · exact h.fb j
  · unfold My.put; split
    · rename_i hjk; rw [hjk]; exact hv2
    · exact h.fk j

theorem Ok.setG {E w F G s} (h : Ok E w F G s) (sz : Sz E) (k v : Int) (h1 : -E.m - 1 ≤ k) (h2 : k ≤ E.n + 1) (hv : -1 ≤ v ∧ v ≤ E.n) (hv2 : v = -1 ∨ v - k ≤ E.m) : Ok E (w.setCell ⟨E.gb, (k + (E.m + 1)).toNat, none⟩ (.int .i64 v)) F (My.put G k v) s := by
  obtain ⟨arr, f3, f4, f5⟩ := h.ff
  obtain ⟨grr, g3, g4, g5⟩ := h.gg
  refine ⟨?_, ⟨arr, ?_, f4, f5⟩, ⟨grr.setIfInBounds (k + (E.m + 1)).toNat (.int .i64 v), ?_, by simpa using g4, fun j hj1 hj2 => ?_⟩, fun i hi => ?_, fun i hi => ?_, h.fb, fun j => ?_, h.fk, fun j => ?_⟩
  · rw [Below.heap_setCell _ _ _ _ (by exact sz.d2)]; exact h.dd
  · rw [Below.heap_setCell _ _ _ _ (by exact sz.d3)]; exact f3
  · exact heap_setCell_at _ _ _ _ _ _ _ g3
  · have hN := sz.N
    unfold My.put
    by_cases hjk : j = k
    · subst hjk
      rw [if_pos rfl, Array.getElem?_setIfInBounds_self_of_lt (by omega)]
    · rw [if_neg hjk, Array.getElem?_setIfInBounds_ne (by omega)]
      exact g5 j hj1 hj2
  · rw [World.cell?_of_block (w := w) (Below.heap_setCell _ _ _ _ (by exact sz.d6))]; exact h.aa i hi
  · rw [World.cell?_of_block (w := w) (Below.heap_setCell _ _ _ _ (by exact sz.d9))]; exact h.bb i hi
  · unfold My.put; split
    · exact hv
    · exact h.gb j
  · unfold My.put; split
    · rename_i hjk; rw [hjk]; exact hv2
    · exact h.gk j
set_option maxHeartbeats 1000000 in
set_option maxRecDepth 100000 in
theorem fH_in {E : E33} {a : Act} {w : World} {c k : Int} {Q : Exit → Act → World → Prop} (sz : Sz E) (hF : Fx E a) (h22 : get a 22 = .int .i64 c) (h23 : get a 23 = .int .i64 k) (hc : 0 ≤ c) (hc' : c ≤ 1100) (hk : max (-c) (-(E.m : Int)) ≤ k) (hk' : k ≤ 1100)
    (hQ : Hid (∀ a', Fx E a' → get a' 22 = .int .i64 c → get a' 23 = .int .i64 k → Q .normal a' w)) :
    Code.wp Try.prog (sub [true, true, true, true, true, true, false, true, false, false, true, false, false, false, true, false, false, false] (bodyOf Try.f33)) Q a w := by
  conv => arg 2; whnf
  obtain ⟨hd, hs, g0, g1, g3, g10, g11, g12, g13, g14, g15, g16, g17, g18, g19, g20⟩ := hF
  have sz' := sz
  obtain ⟨z1, z2, z3, z4, z5, z6, z7, z8, z9, z10, e1, e2, e3, e4, e5, e6, e7, e8, e9, va, vb⟩ := sz'
  clear e1 e2 e3 e4 e5 e6 e7 e8 e9 va vb
  rw [lit33 a hd hs]
  generalize get a = g at *
  simp only [g0, g1, g3, g10, g11, g12, g13, g14, g15, g16, g17, g18, g19, g20, h22, h23]
  clear hd hs g0 g1 g3 g10 g11 g12 g13 g14 g15 g16 g17 g18 g19 g20 h22 h23
  go_wp2
  all_goals exact hQ.out _ ⟨rfl, rfl, rfl, rfl, rfl, rfl, rfl, rfl, rfl, rfl, rfl, rfl, rfl, rfl, rfl, rfl⟩ rfl rfl
set_option maxHeartbeats 1000000 in
set_option maxRecDepth 100000 in
theorem fH_out {E : E33} {a : Act} {w : World} {c k : Int} {Q : Exit → Act → World → Prop} (sz : Sz E) (hF : Fx E a) (h22 : get a 22 = .int .i64 c) (h23 : get a 23 = .int .i64 k) (hc : 0 ≤ c) (hc' : c ≤ 1100) (hk : k < max (-c) (-(E.m : Int))) (hk' : -1100 ≤ k)
    (hQ : Hid (∀ a', Fx E a' → get a' 22 = .int .i64 c → Q (.exit 4) a' w)) :
    Code.wp Try.prog (sub [true, true, true, true, true, true, false, true, false, false, true, false, false, false, true, false, false, false] (bodyOf Try.f33)) Q a w := by
  conv => arg 2; whnf
  obtain ⟨hd, hs, g0, g1, g3, g10, g11, g12, g13, g14, g15, g16, g17, g18, g19, g20⟩ := hF
  have sz' := sz
  obtain ⟨z1, z2, z3, z4, z5, z6, z7, z8, z9, z10, e1, e2, e3, e4, e5, e6, e7, e8, e9, va, vb⟩ := sz'
  clear e1 e2 e3 e4 e5 e6 e7 e8 e9 va vb
  rw [lit33 a hd hs]
  generalize get a = g at *
  simp only [g0, g1, g3, g10, g11, g12, g13, g14, g15, g16, g17, g18, g19, g20, h22, h23]
  clear hd hs g0 g1 g3 g10 g11 g12 g13 g14 g15 g16 g17 g18 g19 g20 h22 h23
  go_wp2
  all_goals exact hQ.out _ ⟨rfl, rfl, rfl, rfl, rfl, rfl, rfl, rfl, rfl, rfl, rfl, rfl, rfl, rfl, rfl, rfl⟩ rfl
set_option maxHeartbeats 1000000 in
set_option maxRecDepth 100000 in
theorem f16_no {E : E33} {a : Act} {w : World} {c k : Int} {Q : Exit → Act → World → Prop} (sz : Sz E) (hF : Fx E a) (h22 : get a 22 = .int .i64 c) (h23 : get a 23 = .int .i64 k) (hp : ((k + c).tmod 2 != 0) = true) (hc : 0 ≤ c) (hc' : c ≤ 1100)(hk : -E.m ≤ k) (hk' : k ≤ E.n)
    (hQ : Hid (∀ a', Fx E a' → get a' 22 = .int .i64 c → get a' 23 = .int .i64 k → Q (.exit 5) a' w)) :
    Code.wp Try.prog (sub [true, true, true, true, true, true, false, true, false, false, true, false, false, false, true, false, false, true, false, false, false] (bodyOf Try.f33)) Q a w := by
  conv => arg 2; whnf
  obtain ⟨hd, hs, g0, g1, g3, g10, g11, g12, g13, g14, g15, g16, g17, g18, g19, g20⟩ := hF
  have sz' := sz
  obtain ⟨z1, z2, z3, z4, z5, z6, z7, z8, z9, z10, e1, e2, e3, e4, e5, e6, e7, e8, e9, va, vb⟩ := sz'
  clear e1 e2 e3 e4 e5 e6 e7 e8 e9 va vb
  rw [lit33 a hd hs]
  generalize get a = g at *
  simp only [g0, g1, g3, g10, g11, g12, g13, g14, g15, g16, g17, g18, g19, g20, h22, h23]
  clear hd hs g0 g1 g3 g10 g11 g12 g13 g14 g15 g16 g17 g18 g19 g20 h22 h23
  go_wp2
  exact hQ.out _ ⟨rfl, rfl, rfl, rfl, rfl, rfl, rfl, rfl, rfl, rfl, rfl, rfl, rfl, rfl, rfl, rfl⟩ rfl rfl
set_option maxHeartbeats 1000000 in
set_option maxRecDepth 100000 in
theorem f16_yes {E : E33} {a : Act} {w : World} {c k : Int} {Q : Exit → Act → World → Prop} (sz : Sz E) (hF : Fx E a) (h22 : get a 22 = .int .i64 c) (h23 : get a 23 = .int .i64 k) (hp : ((k + c).tmod 2 != 0) = false) (hc : 0 ≤ c) (hc' : c ≤ 1100)(hk : -E.m ≤ k) (hk' : k ≤ E.n)
    (hQ : Hid (∀ a', Fx E a' → get a' 22 = .int .i64 c → get a' 23 = .int .i64 k → Q .normal a' w)) :
    Code.wp Try.prog (sub [true, true, true, true, true, true, false, true, false, false, true, false, false, false, true, false, false, true, false, false, false] (bodyOf Try.f33)) Q a w := by
  conv => arg 2; whnf
  obtain ⟨hd, hs, g0, g1, g3, g10, g11, g12, g13, g14, g15, g16, g17, g18, g19, g20⟩ := hF
  have sz' := sz
  obtain ⟨z1, z2, z3, z4, z5, z6, z7, z8, z9, z10, e1, e2, e3, e4, e5, e6, e7, e8, e9, va, vb⟩ := sz'
  clear e1 e2 e3 e4 e5 e6 e7 e8 e9 va vb
  rw [lit33 a hd hs]
  generalize get a = g at *
  simp only [g0, g1, g3, g10, g11, g12, g13, g14, g15, g16, g17, g18, g19, g20, h22, h23]
  clear hd hs g0 g1 g3 g10 g11 g12 g13 g14 g15 g16 g17 g18 g19 g20 h22 h23
  go_wp2
  exact hQ.out _ ⟨rfl, rfl, rfl, rfl, rfl, rfl, rfl, rfl, rfl, rfl, rfl, rfl, rfl, rfl, rfl, rfl⟩ rfl rfl
set_option maxHeartbeats 1000000 in
set_option maxRecDepth 100000 in
theorem f17_yes {E : E33} {a : Act} {w : World} {F G : Int → Int} {s c k : Int} {Q : Exit → Act → World → Prop} (sz : Sz E) (hF : Fx E a) (h22 : get a 22 = .int .i64 c) (h23 : get a 23 = .int .i64 k) (ok : Ok E w F G s) (h0 : 0 ≤ s - 1) (hs2 : s ≤ 9223372036854775807)
    (hQ : Hid (∀ a', Fx E a' → get a' 22 = .int .i64 c → get a' 23 = .int .i64 k → Q .normal a' (w.setCell ⟨E.pd, 6, none⟩ (.int .i64 (s - 1))))) :
    Code.wp Try.prog (sub [true, true, true, true, true, true, false, true, false, false, true, false, false, false, true, false, false, true, false, false, true, false] (bodyOf Try.f33)) Q a w := by
  conv => arg 2; whnf
  obtain ⟨hd, hs, g0, g1, g3, g10, g11, g12, g13, g14, g15, g16, g17, g18, g19, g20⟩ := hF
  have sz' := sz
  obtain ⟨z1, z2, z3, z4, z5, z6, z7, z8, z9, z10, e1, e2, e3, e4, e5, e6, e7, e8, e9, va, vb⟩ := sz'
  clear e1 e2 e3 e4 e5 e6 e7 e8 e9 va vb
  have c6 := ok.d6
  have z6 := ok.dfz 6
  clear ok
  rw [lit33 a hd hs]
  generalize get a = g at *
  simp only [g0, g1, g3, g10, g11, g12, g13, g14, g15, g16, g17, g18, g19, g20, h22, h23]
  clear hd hs g0 g1 g3 g10 g11 g12 g13 g14 g15 g16 g17 g18 g19 g20 h22 h23
  go_wp2
  exact hQ.out _ ⟨rfl, rfl, rfl, rfl, rfl, rfl, rfl, rfl, rfl, rfl, rfl, rfl, rfl, rfl, rfl, rfl⟩ rfl rfl
set_option maxHeartbeats 1000000 in
set_option maxRecDepth 100000 in
theorem f17_no {E : E33} {a : Act} {w : World} {F G : Int → Int} {s c k : Int} {Q : Exit → Act → World → Prop} (sz : Sz E) (hF : Fx E a) (h22 : get a 22 = .int .i64 c) (h23 : get a 23 = .int .i64 k) (ok : Ok E w F G s) (h0 : s - 1 < 0) (hs2 : -4611686018427387904 ≤ s)
    (hQ : Hid (∀ a', Rt a' 0 0 0 0 false → Q .ret a' (w.setCell ⟨E.pd, 6, none⟩ (.int .i64 (s - 1))))) :
    Code.wp Try.prog (sub [true, true, true, true, true, true, false, true, false, false, true, false, false, false, true, false, false, true, false, false, true, false] (bodyOf Try.f33)) Q a w := by
  conv => arg 2; whnf
  obtain ⟨hd, hs, g0, g1, g3, g10, g11, g12, g13, g14, g15, g16, g17, g18, g19, g20⟩ := hF
  have sz' := sz
  obtain ⟨z1, z2, z3, z4, z5, z6, z7, z8, z9, z10, e1, e2, e3, e4, e5, e6, e7, e8, e9, va, vb⟩ := sz'
  clear e1 e2 e3 e4 e5 e6 e7 e8 e9 va vb
  have c6 := ok.d6
  have z6 := ok.dfz 6
  clear ok
  rw [lit33 a hd hs]
  generalize get a = g at *
  simp only [g0, g1, g3, g10, g11, g12, g13, g14, g15, g16, g17, g18, g19, g20, h22, h23]
  clear hd hs g0 g1 g3 g10 g11 g12 g13 g14 g15 g16 g17 g18 g19 g20 h22 h23
  go_wp2
  exact hQ.out _ ⟨rfl, rfl, rfl, rfl, rfl, rfl⟩
set_option maxHeartbeats 1000000 in
set_option maxRecDepth 100000 in
theorem f20 {E : E33} {a : Act} {w : World} {c k : Int} {Q : Exit → Act → World → Prop} (sz : Sz E) (hF : Fx E a) (h22 : get a 22 = .int .i64 c) (h23 : get a 23 = .int .i64 k) 
    (hQ : Hid (∀ a', Fx E a' → get a' 22 = .int .i64 c → get a' 23 = .int .i64 k → get a' 24 = .int .i64 (-1) → Q .normal a' w)) :
    Code.wp Try.prog (sub [true, true, true, true, true, true, false, true, false, false, true, false, false, false, true, false, false, true, false, false, true, true, false] (bodyOf Try.f33)) Q a w := by
  conv => arg 2; whnf
  obtain ⟨hd, hs, g0, g1, g3, g10, g11, g12, g13, g14, g15, g16, g17, g18, g19, g20⟩ := hF
  have sz' := sz
  obtain ⟨z1, z2, z3, z4, z5, z6, z7, z8, z9, z10, e1, e2, e3, e4, e5, e6, e7, e8, e9, va, vb⟩ := sz'
  clear e1 e2 e3 e4 e5 e6 e7 e8 e9 va vb
  rw [lit33 a hd hs]
  generalize get a = g at *
  simp only [g0, g1, g3, g10, g11, g12, g13, g14, g15, g16, g17, g18, g19, g20, h22, h23]
  clear hd hs g0 g1 g3 g10 g11 g12 g13 g14 g15 g16 g17 g18 g19 g20 h22 h23
  go_wp2
  exact hQ.out _ ⟨rfl, rfl, rfl, rfl, rfl, rfl, rfl, rfl, rfl, rfl, rfl, rfl, rfl, rfl, rfl, rfl⟩ rfl rfl rfl
set_option maxHeartbeats 1000000 in
set_option maxRecDepth 100000 in
theorem f21 {E : E33} {a : Act} {w : World} {c k : Int} {Q : Exit → Act → World → Prop} (sz : Sz E) (hF : Fx E a) (h22 : get a 22 = .int .i64 c) (h23 : get a 23 = .int .i64 k) (h24 : get a 24 = .int .i64 (-1)) (hc : 0 ≤ c) (hc' : c ≤ 1100)
    (hQ : Hid (∀ a', Fx E a' → get a' 22 = .int .i64 c → get a' 23 = .int .i64 k → get a' 24 = .int .i64 (if c = 0 then 0 else -1) → Q .normal a' w)) :
    Code.wp Try.prog (sub [true, true, true, true, true, true, false, true, false, false, true, false, false, false, true, false, false, true, false, false, true, true, true, false] (bodyOf Try.f33)) Q a w := by
  conv => arg 2; whnf
  obtain ⟨hd, hs, g0, g1, g3, g10, g11, g12, g13, g14, g15, g16, g17, g18, g19, g20⟩ := hF
  have sz' := sz
  obtain ⟨z1, z2, z3, z4, z5, z6, z7, z8, z9, z10, e1, e2, e3, e4, e5, e6, e7, e8, e9, va, vb⟩ := sz'
  clear e1 e2 e3 e4 e5 e6 e7 e8 e9 va vb
  rw [lit33 a hd hs]
  generalize get a = g at *
  simp only [g0, g1, g3, g10, g11, g12, g13, g14, g15, g16, g17, g18, g19, g20, h22, h23, h24]
  clear hd hs g0 g1 g3 g10 g11 g12 g13 g14 g15 g16 g17 g18 g19 g20 h22 h23 h24
  by_cases h0 : c = 0
  · subst h0
    go_wp2
    exact hQ.out _ ⟨rfl, rfl, rfl, rfl, rfl, rfl, rfl, rfl, rfl, rfl, rfl, rfl, rfl, rfl, rfl, rfl⟩ rfl rfl rfl
  · have hb : (c == 0) = false := by simp [h0]
    have H : Hid (¬ c = 0) := h0
    clear h0
    go_wp2
    exact hQ.out _ ⟨rfl, rfl, rfl, rfl, rfl, rfl, rfl, rfl, rfl, rfl, rfl, rfl, rfl, rfl, rfl, rfl⟩ rfl rfl (by rw [if_neg H.out]; rfl)
set_option maxHeartbeats 1000000 in
set_option maxRecDepth 100000 in
theorem f23 {E : E33} {a : Act} {w : World} {F G : Int → Int} {s c k x : Int} {Q : Exit → Act → World → Prop} (sz : Sz E) (hF : Fx E a) (h22 : get a 22 = .int .i64 c) (h23 : get a 23 = .int .i64 k) (h24 : get a 24 = .int .i64 x) (ok : Ok E w F G s) (hc : 0 ≤ c) (hc' : c ≤ 1100)(hk : -E.m ≤ k) (hk' : k ≤ E.n)
    (hQ : Hid (∀ a', Fx E a' → get a' 22 = .int .i64 c → get a' 23 = .int .i64 k → get a' 24 = .int .i64 (if k < c ∧ 0 ≤ F (k + 1) ∧ F (k + 1) - (k + 1) < E.m then F (k + 1) else x) → Q .normal a' w)) :
    Code.wp Try.prog (sub [true, true, true, true, true, true, false, true, false, false, true, false, false, false, true, false, false, true, false, false, true, true, true, true, false] (bodyOf Try.f33)) Q a w := by
  conv => arg 2; whnf
  obtain ⟨hd, hs, g0, g1, g3, g10, g11, g12, g13, g14, g15, g16, g17, g18, g19, g20⟩ := hF
  have sz' := sz
  obtain ⟨z1, z2, z3, z4, z5, z6, z7, z8, z9, z10, e1, e2, e3, e4, e5, e6, e7, e8, e9, va, vb⟩ := sz'
  clear e1 e2 e3 e4 e5 e6 e7 e8 e9 va vb
  have hcell := ok.f (k + 1) (by omega) (by omega)
  have hb := ok.fb (k + 1)
  clear ok
  rw [lit33 a hd hs]
  generalize get a = g at *
  simp only [g0, g1, g3, g10, g11, g12, g13, g14, g15, g16, g17, g18, g19, g20, h22, h23, h24]
  clear hd hs g0 g1 g3 g10 g11 g12 g13 g14 g15 g16 g17 g18 g19 g20 h22 h23 h24
  go_wp2
  all_goals exact hQ.out _ ⟨rfl, rfl, rfl, rfl, rfl, rfl, rfl, rfl, rfl, rfl, rfl, rfl, rfl, rfl, rfl, rfl⟩ rfl rfl (congrArg (Value.int .i64) (by split <;> omega))
set_option maxHeartbeats 1000000 in
set_option maxRecDepth 100000 in
theorem f27 {E : E33} {a : Act} {w : World} {F G : Int → Int} {s c k x : Int} {Q : Exit → Act → World → Prop} (sz : Sz E) (hF : Fx E a) (h22 : get a 22 = .int .i64 c) (h23 : get a 23 = .int .i64 k) (h24 : get a 24 = .int .i64 x) (ok : Ok E w F G s) (hx : -1 ≤ x) (hx' : x ≤ E.n) (hc : 0 ≤ c) (hc' : c ≤ 1100)(hk : -E.m ≤ k) (hk' : k ≤ E.n)
    (hQ : Hid (∀ a', Fx E a' → get a' 22 = .int .i64 c → get a' 23 = .int .i64 k → get a' 24 = .int .i64 (if -c < k ∧ 0 ≤ F (k - 1) ∧ F (k - 1) < E.n then max x (F (k - 1) + 1) else x) → Q .normal a' w)) :
    Code.wp Try.prog (sub [true, true, true, true, true, true, false, true, false, false, true, false, false, false, true, false, false, true, false, false, true, true, true, true, true, false] (bodyOf Try.f33)) Q a w := by
  conv => arg 2; whnf
  obtain ⟨hd, hs, g0, g1, g3, g10, g11, g12, g13, g14, g15, g16, g17, g18, g19, g20⟩ := hF
  have sz' := sz
  obtain ⟨z1, z2, z3, z4, z5, z6, z7, z8, z9, z10, e1, e2, e3, e4, e5, e6, e7, e8, e9, va, vb⟩ := sz'
  clear e1 e2 e3 e4 e5 e6 e7 e8 e9 va vb
  have hcell := ok.f (k - 1) (by omega) (by omega)
  have hb := ok.fb (k - 1)
  clear ok
  rw [lit33 a hd hs]
  generalize get a = g at *
  simp only [g0, g1, g3, g10, g11, g12, g13, g14, g15, g16, g17, g18, g19, g20, h22, h23, h24]
  clear hd hs g0 g1 g3 g10 g11 g12 g13 g14 g15 g16 g17 g18 g19 g20 h22 h23 h24
  go_wp2
  all_goals exact hQ.out _ ⟨rfl, rfl, rfl, rfl, rfl, rfl, rfl, rfl, rfl, rfl, rfl, rfl, rfl, rfl, rfl, rfl⟩ rfl rfl (congrArg (Value.int .i64) (by split <;> omega))
set_option maxHeartbeats 1000000 in
set_option maxRecDepth 100000 in
theorem f31_no {E : E33} {a : Act} {w : World} {c k x : Int} {Q : Exit → Act → World → Prop} (sz : Sz E) (hF : Fx E a) (h22 : get a 22 = .int .i64 c) (h23 : get a 23 = .int .i64 k) (h24 : get a 24 = .int .i64 x) (hx : x < 0)
    (hQ : Hid (∀ a', Fx E a' → get a' 22 = .int .i64 c → get a' 23 = .int .i64 k → Q (.exit 5) a' w)) :
    Code.wp Try.prog (sub [true, true, true, true, true, true, false, true, false, false, true, false, false, false, true, false, false, true, false, false, true, true, true, true, true, true, false] (bodyOf Try.f33)) Q a w := by
  conv => arg 2; whnf
  obtain ⟨hd, hs, g0, g1, g3, g10, g11, g12, g13, g14, g15, g16, g17, g18, g19, g20⟩ := hF
  have sz' := sz
  obtain ⟨z1, z2, z3, z4, z5, z6, z7, z8, z9, z10, e1, e2, e3, e4, e5, e6, e7, e8, e9, va, vb⟩ := sz'
  clear e1 e2 e3 e4 e5 e6 e7 e8 e9 va vb
  rw [lit33 a hd hs]
  generalize get a = g at *
  simp only [g0, g1, g3, g10, g11, g12, g13, g14, g15, g16, g17, g18, g19, g20, h22, h23, h24]
  clear hd hs g0 g1 g3 g10 g11 g12 g13 g14 g15 g16 g17 g18 g19 g20 h22 h23 h24
  go_wp2
  exact hQ.out _ ⟨rfl, rfl, rfl, rfl, rfl, rfl, rfl, rfl, rfl, rfl, rfl, rfl, rfl, rfl, rfl, rfl⟩ rfl rfl
set_option maxHeartbeats 1000000 in
set_option maxRecDepth 100000 in
theorem f31_yes {E : E33} {a : Act} {w : World} {c k x : Int} {Q : Exit → Act → World → Prop} (sz : Sz E) (hF : Fx E a) (h22 : get a 22 = .int .i64 c) (h23 : get a 23 = .int .i64 k) (h24 : get a 24 = .int .i64 x) (hx : 0 ≤ x)
    (hQ : Hid (∀ a', Fx E a' → get a' 22 = .int .i64 c → get a' 23 = .int .i64 k → get a' 24 = .int .i64 x → Q .normal a' w)) :
    Code.wp Try.prog (sub [true, true, true, true, true, true, false, true, false, false, true, false, false, false, true, false, false, true, false, false, true, true, true, true, true, true, false] (bodyOf Try.f33)) Q a w := by
  conv => arg 2; whnf
  obtain ⟨hd, hs, g0, g1, g3, g10, g11, g12, g13, g14, g15, g16, g17, g18, g19, g20⟩ := hF
  have sz' := sz
  obtain ⟨z1, z2, z3, z4, z5, z6, z7, z8, z9, z10, e1, e2, e3, e4, e5, e6, e7, e8, e9, va, vb⟩ := sz'
  clear e1 e2 e3 e4 e5 e6 e7 e8 e9 va vb
  rw [lit33 a hd hs]
  generalize get a = g at *
  simp only [g0, g1, g3, g10, g11, g12, g13, g14, g15, g16, g17, g18, g19, g20, h22, h23, h24]
  clear hd hs g0 g1 g3 g10 g11 g12 g13 g14 g15 g16 g17 g18 g19 g20 h22 h23 h24
  go_wp2
  exact hQ.out _ ⟨rfl, rfl, rfl, rfl, rfl, rfl, rfl, rfl, rfl, rfl, rfl, rfl, rfl, rfl, rfl, rfl⟩ rfl rfl rfl
set_option maxHeartbeats 1000000 in
set_option maxRecDepth 100000 in
theorem f32 {E : E33} {a : Act} {w : World} {c k x : Int} {Q : Exit → Act → World → Prop} (sz : Sz E) (hF : Fx E a) (h22 : get a 22 = .int .i64 c) (h23 : get a 23 = .int .i64 k) (h24 : get a 24 = .int .i64 x) (hx : 0 ≤ x) (hx' : x ≤ E.n) (hk : -E.m ≤ k) (hk' : k ≤ E.n)
    (hQ : Hid (∀ a', Fx E a' → get a' 22 = .int .i64 c → get a' 23 = .int .i64 k → get a' 24 = .int .i64 x → get a' 27 = .int .i64 x → get a' 28 = .int .i64 (x - k) → Q .normal a' w)) :
    Code.wp Try.prog (sub [true, true, true, true, true, true, false, true, false, false, true, false, false, false, true, false, false, true, false, false, true, true, true, true, true, true, true, false] (bodyOf Try.f33)) Q a w := by
  conv => arg 2; whnf
  obtain ⟨hd, hs, g0, g1, g3, g10, g11, g12, g13, g14, g15, g16, g17, g18, g19, g20⟩ := hF
  have sz' := sz
  obtain ⟨z1, z2, z3, z4, z5, z6, z7, z8, z9, z10, e1, e2, e3, e4, e5, e6, e7, e8, e9, va, vb⟩ := sz'
  clear e1 e2 e3 e4 e5 e6 e7 e8 e9 va vb
  rw [lit33 a hd hs]
  generalize get a = g at *
  simp only [g0, g1, g3, g10, g11, g12, g13, g14, g15, g16, g17, g18, g19, g20, h22, h23, h24]
  clear hd hs g0 g1 g3 g10 g11 g12 g13 g14 g15 g16 g17 g18 g19 g20 h22 h23 h24
  go_wp2
  exact hQ.out _ ⟨rfl, rfl, rfl, rfl, rfl, rfl, rfl, rfl, rfl, rfl, rfl, rfl, rfl, rfl, rfl, rfl⟩ rfl rfl rfl rfl rfl
set_option maxHeartbeats 1000000 in
set_option maxRecDepth 100000 in
theorem f33_yes {E : E33} {a : Act} {w : World} {F G : Int → Int} {s c k x sx sy : Int} {Q : Exit → Act → World → Prop} (sz : Sz E) (hF : Fx E a) (h22 : get a 22 = .int .i64 c) (h23 : get a 23 = .int .i64 k) (h24 : get a 24 = .int .i64 x) (h27 : get a 27 = .int .i64 sx) (h28 : get a 28 = .int .i64 sy) (ok : Ok E w F G s) (hs0 : -4611686018427387904 ≤ s) (hs1 : s ≤ 9223372036854775807) (hx : 0 ≤ x) (hk2 : k ≤ x) (hk : -E.m ≤ k) (hk3 : k ≤ E.n) (hxn : x < E.n) (hxm : x - k < E.m) (heq : (E.A (E.x0 + x).toNat == E.B (E.y0 + x - k).toNat) = true)
    (hQ : Hid (∀ a' w', Fx E a' → get a' 22 = .int .i64 c → get a' 23 = .int .i64 k → get a' 24 = .int .i64 (x + 1) → get a' 27 = .int .i64 sx → get a' 28 = .int .i64 sy → Ok E w' F G (s - 1) → Sm E w w' → Q .normal a' w')) :
    Code.wp Try.prog (sub [true, true, true, true, true, true, false, true, false, false, true, false, false, false, true, false, false, true, false, false, true, true, true, true, true, true, true, true, false, false, false] (bodyOf Try.f33)) Q a w := by
  conv => arg 2; whnf
  obtain ⟨hd, hs, g0, g1, g3, g10, g11, g12, g13, g14, g15, g16, g17, g18, g19, g20⟩ := hF
  have sz' := sz
  obtain ⟨z1, z2, z3, z4, z5, z6, z7, z8, z9, z10, e1, e2, e3, e4, e5, e6, e7, e8, e9, va, vb⟩ := sz'
  clear e1 e2 e3 e4 e5 e6 e7 e8 e9 va vb
  have c6 := ok.d6
  have z6 := ok.dfz 6
  have c0 := ok.d0
  have c1 := ok.d1
  rw [sz.va (by omega)] at c0
  rw [sz.vb (by omega)] at c1
  have cA := ok.aa (E.x0 + x).toNat (by omega)
  have cB := ok.bb (E.y0 + x - k).toNat (by omega)
  rw [lit33 a hd hs]
  generalize get a = g at *
  simp only [g0, g1, g3, g10, g11, g12, g13, g14, g15, g16, g17, g18, g19, g20, h22, h23, h24, h27, h28]
  clear hd hs g0 g1 g3 g10 g11 g12 g13 g14 g15 g16 g17 g18 g19 g20 h22 h23 h24 h27 h28
  have OK : Hid (Ok E w F G s) := ok
  clear ok
  go_wp2
  go_quiet (fail)
  go_wp2
  exact hQ.out _ _ ⟨rfl, rfl, rfl, rfl, rfl, rfl, rfl, rfl, rfl, rfl, rfl, rfl, rfl, rfl, rfl, rfl⟩ rfl rfl rfl rfl rfl ((OK.out.drewN _).setS sz _) (((Sm.refl E w).drewN _).setCell (.inl rfl) _)
set_option maxHeartbeats 1000000 in
set_option maxRecDepth 100000 in
theorem f33_no1 {E : E33} {a : Act} {w : World} {F G : Int → Int} {s c k x sx sy : Int} {Q : Exit → Act → World → Prop} (sz : Sz E) (hF : Fx E a) (h22 : get a 22 = .int .i64 c) (h23 : get a 23 = .int .i64 k) (h24 : get a 24 = .int .i64 x) (h27 : get a 27 = .int .i64 sx) (h28 : get a 28 = .int .i64 sy) (ok : Ok E w F G s) (hs0 : -4611686018427387904 ≤ s) (hs1 : s ≤ 9223372036854775807) (hx : 0 ≤ x) (hk2 : k ≤ x) (hk : -E.m ≤ k) (hk3 : k ≤ E.n) (hxn : E.n ≤ x)
    (hQ : Hid (∀ a' w', Fx E a' → get a' 22 = .int .i64 c → get a' 23 = .int .i64 k → get a' 24 = .int .i64 x → get a' 27 = .int .i64 sx → get a' 28 = .int .i64 sy → Ok E w' F G s → Sm E w w' → Q (.exit 6) a' w')) :
    Code.wp Try.prog (sub [true, true, true, true, true, true, false, true, false, false, true, false, false, false, true, false, false, true, false, false, true, true, true, true, true, true, true, true, false, false, false] (bodyOf Try.f33)) Q a w := by
  conv => arg 2; whnf
  obtain ⟨hd, hs, g0, g1, g3, g10, g11, g12, g13, g14, g15, g16, g17, g18, g19, g20⟩ := hF
  have sz' := sz
  obtain ⟨z1, z2, z3, z4, z5, z6, z7, z8, z9, z10, e1, e2, e3, e4, e5, e6, e7, e8, e9, va, vb⟩ := sz'
  clear e1 e2 e3 e4 e5 e6 e7 e8 e9 va vb
  have c6 := ok.d6
  have z6 := ok.dfz 6
  have c0 := ok.d0
  have c1 := ok.d1
  have hdd : decide (x < (E.n : Int)) = false := by simp; omega
  rw [lit33 a hd hs]
  generalize get a = g at *
  simp only [g0, g1, g3, g10, g11, g12, g13, g14, g15, g16, g17, g18, g19, g20, h22, h23, h24, h27, h28]
  clear hd hs g0 g1 g3 g10 g11 g12 g13 g14 g15 g16 g17 g18 g19 g20 h22 h23 h24 h27 h28
  have OK : Hid (Ok E w F G s) := ok
  clear ok
  go_wp2
  go_quiet (fail)
  go_wp2
  exact hQ.out _ _ ⟨rfl, rfl, rfl, rfl, rfl, rfl, rfl, rfl, rfl, rfl, rfl, rfl, rfl, rfl, rfl, rfl⟩ rfl rfl rfl rfl rfl (OK.out.drewN _) ((Sm.refl E w).drewN _)
set_option maxHeartbeats 1000000 in
set_option maxRecDepth 100000 in
theorem f33_no2 {E : E33} {a : Act} {w : World} {F G : Int → Int} {s c k x sx sy : Int} {Q : Exit → Act → World → Prop} (sz : Sz E) (hF : Fx E a) (h22 : get a 22 = .int .i64 c) (h23 : get a 23 = .int .i64 k) (h24 : get a 24 = .int .i64 x) (h27 : get a 27 = .int .i64 sx) (h28 : get a 28 = .int .i64 sy) (ok : Ok E w F G s) (hs0 : -4611686018427387904 ≤ s) (hs1 : s ≤ 9223372036854775807) (hx : 0 ≤ x) (hk2 : k ≤ x) (hk : -E.m ≤ k) (hk3 : k ≤ E.n) (hxn : x < E.n) (hxm : E.m ≤ x - k)
    (hQ : Hid (∀ a' w', Fx E a' → get a' 22 = .int .i64 c → get a' 23 = .int .i64 k → get a' 24 = .int .i64 x → get a' 27 = .int .i64 sx → get a' 28 = .int .i64 sy → Ok E w' F G s → Sm E w w' → Q (.exit 6) a' w')) :
    Code.wp Try.prog (sub [true, true, true, true, true, true, false, true, false, false, true, false, false, false, true, false, false, true, false, false, true, true, true, true, true, true, true, true, false, false, false] (bodyOf Try.f33)) Q a w := by
  conv => arg 2; whnf
  obtain ⟨hd, hs, g0, g1, g3, g10, g11, g12, g13, g14, g15, g16, g17, g18, g19, g20⟩ := hF
  have sz' := sz
  obtain ⟨z1, z2, z3, z4, z5, z6, z7, z8, z9, z10, e1, e2, e3, e4, e5, e6, e7, e8, e9, va, vb⟩ := sz'
  clear e1 e2 e3 e4 e5 e6 e7 e8 e9 va vb
  have c6 := ok.d6
  have z6 := ok.dfz 6
  have c0 := ok.d0
  have c1 := ok.d1
  have hdd : decide (x - k < (E.m : Int)) = false := by simp; omega
  rw [lit33 a hd hs]
  generalize get a = g at *
  simp only [g0, g1, g3, g10, g11, g12, g13, g14, g15, g16, g17, g18, g19, g20, h22, h23, h24, h27, h28]
  clear hd hs g0 g1 g3 g10 g11 g12 g13 g14 g15 g16 g17 g18 g19 g20 h22 h23 h24 h27 h28
  have OK : Hid (Ok E w F G s) := ok
  clear ok
  go_wp2
  go_quiet (fail)
  go_wp2
  exact hQ.out _ _ ⟨rfl, rfl, rfl, rfl, rfl, rfl, rfl, rfl, rfl, rfl, rfl, rfl, rfl, rfl, rfl, rfl⟩ rfl rfl rfl rfl rfl (OK.out.drewN _) ((Sm.refl E w).drewN _)
set_option maxHeartbeats 1000000 in
set_option maxRecDepth 100000 in
theorem f33_no3 {E : E33} {a : Act} {w : World} {F G : Int → Int} {s c k x sx sy : Int} {Q : Exit → Act → World → Prop} (sz : Sz E) (hF : Fx E a) (h22 : get a 22 = .int .i64 c) (h23 : get a 23 = .int .i64 k) (h24 : get a 24 = .int .i64 x) (h27 : get a 27 = .int .i64 sx) (h28 : get a 28 = .int .i64 sy) (ok : Ok E w F G s) (hs0 : -4611686018427387904 ≤ s) (hs1 : s ≤ 9223372036854775807) (hx : 0 ≤ x) (hk2 : k ≤ x) (hk : -E.m ≤ k) (hk3 : k ≤ E.n) (hxn : x < E.n) (hxm : x - k < E.m) (heq : (E.A (E.x0 + x).toNat == E.B (E.y0 + x - k).toNat) = false)
    (hQ : Hid (∀ a' w', Fx E a' → get a' 22 = .int .i64 c → get a' 23 = .int .i64 k → get a' 24 = .int .i64 x → get a' 27 = .int .i64 sx → get a' 28 = .int .i64 sy → Ok E w' F G s → Sm E w w' → Q (.exit 6) a' w')) :
    Code.wp Try.prog (sub [true, true, true, true, true, true, false, true, false, false, true, false, false, false, true, false, false, true, false, false, true, true, true, true, true, true, true, true, false, false, false] (bodyOf Try.f33)) Q a w := by
  conv => arg 2; whnf
  obtain ⟨hd, hs, g0, g1, g3, g10, g11, g12, g13, g14, g15, g16, g17, g18, g19, g20⟩ := hF
  have sz' := sz
  obtain ⟨z1, z2, z3, z4, z5, z6, z7, z8, z9, z10, e1, e2, e3, e4, e5, e6, e7, e8, e9, va, vb⟩ := sz'
  clear e1 e2 e3 e4 e5 e6 e7 e8 e9 va vb
  have c6 := ok.d6
  have z6 := ok.dfz 6
  have c0 := ok.d0
  have c1 := ok.d1
  rw [sz.va (by omega)] at c0
  rw [sz.vb (by omega)] at c1
  have cA := ok.aa (E.x0 + x).toNat (by omega)
  have cB := ok.bb (E.y0 + x - k).toNat (by omega)
  rw [lit33 a hd hs]
  generalize get a = g at *
  simp only [g0, g1, g3, g10, g11, g12, g13, g14, g15, g16, g17, g18, g19, g20, h22, h23, h24, h27, h28]
  clear hd hs g0 g1 g3 g10 g11 g12 g13 g14 g15 g16 g17 g18 g19 g20 h22 h23 h24 h27 h28
  have OK : Hid (Ok E w F G s) := ok
  clear ok
  go_wp2
  go_quiet (fail)
  go_wp2
  exact hQ.out _ _ ⟨rfl, rfl, rfl, rfl, rfl, rfl, rfl, rfl, rfl, rfl, rfl, rfl, rfl, rfl, rfl, rfl⟩ rfl rfl rfl rfl rfl (OK.out.drewN _) ((Sm.refl E w).drewN _)
end Go.Proofs.Qxb6601687a
