/-
  THE WALK OF compare (function 32), part 5: the first call, which makes the rows of the search; ZZCompare (function 14).
-/
import Derived.Test.Qxb6601687aCompD
import Derived.Test.Qxb6601687aGuards
import Derived.Test.Qxb6601687aZzms
namespace Go.Proofs.Qxb6601687a
open Go.RowKit
set_option linter.unusedVariables false
set_option linter.unusedSimpArgs false

/-- of what was there only the struct and the marks have turned -/
structure Fm (C : C32) (w w' : World) : Prop where
  os : w'.os = w.os
  tape : w'.tape = w.tape
  output : w'.output = w.output
  size : w.heap.size ≤ w'.heap.size
  block : ∀ k, k < w.heap.size → k ≠ C.pd → k ≠ C.db → k ≠ C.ib → w'.heap[k]? = w.heap[k]?
theorem Fm.trans {C : C32} {a b c : World} (h : Fm C a b) (k : Fm C b c) : Fm C a c :=
  ⟨k.os.trans h.os, k.tape.trans h.tape, k.output.trans h.output, Nat.le_trans h.size k.size, fun i h0 h1 h2 h3 => (k.block i (Nat.lt_of_lt_of_le h0 h.size) h1 h2 h3).trans (h.block i h0 h1 h2 h3)⟩
theorem Kp.fm {C : C32} {w w' : World} (h : Kp C w w') : Fm C w w' := ⟨h.os, h.tape, h.output, by rw [h.size]; exact Nat.le_refl _, fun k _ h1 h2 h3 => h.block k h1 h2 h3⟩
theorem Sk.fm {C : C32} {fb gb : Nat} {w0 w w' : World} (h : Sk C fb gb w w') (g : Fm C w0 w) (hf : w0.heap.size ≤ fb) (hg : w0.heap.size ≤ gb) : Fm C w0 w' :=
  ⟨h.os.trans g.os, h.tape.trans g.tape, h.output.trans g.output, by rw [h.size]; exact g.size, fun k h0 h1 h2 h3 => (h.block k h1 h2 h3 (by omega) (by omega)).trans (g.block k h0 h1 h2 h3)⟩

theorem heap2 (w : World) (o1 o2 : Obj) : ((w.alloc o1).alloc o2).heap[w.heap.size]? = some o1 ∧ ((w.alloc o1).alloc o2).heap[w.heap.size + 1]? = some o2 ∧ (∀ k, k < w.heap.size → ((w.alloc o1).alloc o2).heap[k]? = w.heap[k]?) ∧ ((w.alloc o1).alloc o2).heap.size = w.heap.size + 2 := by
  show ((w.heap.push o1).push o2)[w.heap.size]? = some o1 ∧ ((w.heap.push o1).push o2)[w.heap.size + 1]? = some o2 ∧ (∀ k, k < w.heap.size → ((w.heap.push o1).push o2)[k]? = w.heap[k]?) ∧ ((w.heap.push o1).push o2).size = w.heap.size + 2
  refine ⟨?_, ?_, fun k hk => ?_, ?_⟩
  · simp only [Array.getElem?_push, Array.size_push]; rw [if_neg (by omega), if_pos trivial]
  · simp only [Array.getElem?_push, Array.size_push]; rw [if_pos trivial]
  · simp only [Array.getElem?_push, Array.size_push]; rw [if_neg (by omega), if_neg (by omega)]
  · simp

/-- the rows of the search are laid -/
theorem rows_laid {C : C32} {w : World} {dl il : Nat → Bool} {s : Int} {Z : Array Value} {N fb gb : Nat} (sz : Sz2 C) (mem : M C w dl il s (.slice none 0 0) (.slice none 0 0)) (hZ : Z.size = N) (hN : N ≤ 1000000)
    (hfg : (fb = w.heap.size ∧ gb = w.heap.size + 1) ∨ (fb = w.heap.size + 1 ∧ gb = w.heap.size))
    (hpd : C.pd < w.heap.size) (hdb : C.db < w.heap.size) (hib : C.ib < w.heap.size) (hab : C.ab ≠ w.heap.size ∧ C.ab ≠ w.heap.size + 1) (hbb : C.bb ≠ w.heap.size ∧ C.bb ≠ w.heap.size + 1) (W : World)
    (hW : W = ((((w.setCell ⟨C.pd, 4, none⟩ (.slice (some ⟨fb, 0, none⟩) N N)).setCell ⟨C.pd, 5, none⟩ (.slice (some ⟨gb, 0, none⟩) N N)).alloc (.cells Z 3)).alloc (.cells Z 3)).drew) :
    M C W dl il s (.slice (some ⟨fb, 0, none⟩) N N) (.slice (some ⟨gb, 0, none⟩) N N) ∧ Al C W fb gb N ∧ Fm C w W := by
  have hsz : ((w.setCell ⟨C.pd, 4, none⟩ (.slice (some ⟨fb, 0, none⟩) N N)).setCell ⟨C.pd, 5, none⟩ (.slice (some ⟨gb, 0, none⟩) N N)).heap.size = w.heap.size := by simp [World.setCell]
  have hpdc : ((w.setCell ⟨C.pd, 4, none⟩ (.slice (some ⟨fb, 0, none⟩) N N)).setCell ⟨C.pd, 5, none⟩ (.slice (some ⟨gb, 0, none⟩) N N)).heap[C.pd]? = some (.cells #[C.va, C.vb, .slice (some ⟨C.db, 0, none⟩) C.la C.la, .slice (some ⟨C.ib, 0, none⟩) C.lb C.lb, .slice (some ⟨fb, 0, none⟩) N N, .slice (some ⟨gb, 0, none⟩) N N, .int .i64 s] 42 (0, 0)) := by
    rw [heap_setCell_at _ _ _ _ _ _ _ (heap_setCell_at _ _ _ _ _ _ _ mem.dd)]; rfl
  have hother : ∀ k, k ≠ C.pd → ((w.setCell ⟨C.pd, 4, none⟩ (.slice (some ⟨fb, 0, none⟩) N N)).setCell ⟨C.pd, 5, none⟩ (.slice (some ⟨gb, 0, none⟩) N N)).heap[k]? = w.heap[k]? := by
    intro k hk
    rw [Below.heap_setCell _ _ _ _ (by exact hk), Below.heap_setCell _ _ _ _ (by exact hk)]
  have hs3 : ((w.setCell ⟨C.pd, 4, none⟩ (.slice (some ⟨fb, 0, none⟩) N N)).setCell ⟨C.pd, 5, none⟩ (.slice (some ⟨gb, 0, none⟩) N N)).os = w.os ∧ ((w.setCell ⟨C.pd, 4, none⟩ (.slice (some ⟨fb, 0, none⟩) N N)).setCell ⟨C.pd, 5, none⟩ (.slice (some ⟨gb, 0, none⟩) N N)).tape = w.tape ∧ ((w.setCell ⟨C.pd, 4, none⟩ (.slice (some ⟨fb, 0, none⟩) N N)).setCell ⟨C.pd, 5, none⟩ (.slice (some ⟨gb, 0, none⟩) N N)).output = w.output := ⟨rfl, rfl, rfl⟩
  generalize (w.setCell ⟨C.pd, 4, none⟩ (.slice (some ⟨fb, 0, none⟩) N N)).setCell ⟨C.pd, 5, none⟩ (.slice (some ⟨gb, 0, none⟩) N N) = w0 at *
  obtain ⟨h1, h2, h3, h4⟩ := heap2 w0 (.cells Z 3) (.cells Z 3)
  have k1 : W.heap[w.heap.size]? = some (.cells Z 3) := by rw [hW, ← hsz]; exact h1
  have k2 : W.heap[w.heap.size + 1]? = some (.cells Z 3) := by rw [hW, ← hsz]; exact h2
  have k3 : ∀ k, k < w.heap.size → k ≠ C.pd → W.heap[k]? = w.heap[k]? := fun k hk hkp => by rw [hW, ← hother k hkp]; exact h3 k (by omega)
  have k4 : W.heap.size = w.heap.size + 2 := by rw [hW]; show ((w0.alloc _).alloc _).heap.size = _; omega
  have k5 : W.heap[C.pd]? = w0.heap[C.pd]? := by rw [hW]; exact h3 C.pd (by omega)
  have k6 : W.os = w.os ∧ W.tape = w.tape ∧ W.output = w.output := by rw [hW]; exact hs3
  obtain ⟨drr, d1, d2, d3⟩ := mem.dv
  obtain ⟨irr, i1, i2, i3⟩ := mem.iv
  refine ⟨⟨by rw [k5]; exact hpdc, ⟨drr, by rw [k3 _ hdb sz.e3]; exact d1, d2, d3⟩, ⟨irr, by rw [k3 _ hib sz.e4]; exact i1, i2, i3⟩, fun i hi => ?_, fun i hi => ?_⟩, ?_, ⟨k6.1, k6.2.1, k6.2.2, by omega, fun k h0 h1 _ _ => k3 k h0 h1⟩⟩
  · have hc := mem.aa i hi
    rw [World.cell?_of_block (w := w) (k3 C.ab (cell_lt hc) sz.e1)]; exact hc
  · have hc := mem.bb i hi
    rw [World.cell?_of_block (w := w) (k3 C.bb (cell_lt hc) sz.e2)]; exact hc
  · rcases hfg with ⟨rfl, rfl⟩ | ⟨rfl, rfl⟩
    · exact ⟨⟨Z, k1, hZ⟩, ⟨Z, k2, hZ⟩, by omega, by omega, hab.1, hbb.1, by omega, by omega, by omega, hab.2, hbb.2, by omega, by omega, hN⟩
    · exact ⟨⟨Z, k2, hZ⟩, ⟨Z, k1, hZ⟩, by omega, by omega, hab.2, hbb.2, by omega, by omega, by omega, hab.1, hbb.1, by omega, by omega, hN⟩

set_option maxHeartbeats 1000000 in
set_option maxRecDepth 100000 in
theorem p15_nil {C : C32} {a : Act} {w : World} {dl il : Nat → Bool} {i0 i1 j0 j1 : Nat} {s : Int} {Q : Exit → Act → World → Prop} (sz : Sz2 C) (hF : Fy C a) (h1 : get a 1 = .int .i64 i0) (h2 : get a 2 = .int .i64 i1) (h3 : get a 3 = .int .i64 j0) (h4 : get a 4 = .int .i64 j1) (mem : M C w dl il s (.slice none 0 0) (.slice none 0 0))
    (hQ : Hid (∀ a', Fy C a' → get a' 1 = .int .i64 i0 → get a' 2 = .int .i64 i1 → get a' 3 = .int .i64 j0 → get a' 4 = .int .i64 j1 → get a' 115 = .bool true → Q .normal a' w)) :
    Code.wp Try.prog (sub2 [true, true, true, true, false, false] (bodyOf Try.f32)) Q a w := by
  conv => arg 2; whnf
  obtain ⟨hd, hs, g0, g10⟩ := hF
  have c4 := mem.d4
  have hq := nil40
  clear mem
  rw [lit32 a hd hs]
  generalize get a = g at *
  simp only [g0, g10, h1, h2, h3, h4]
  clear hd hs g0 g10 h1 h2 h3 h4
  go_wp2
  exact hQ.out _ ⟨rfl, rfl, rfl, rfl⟩ rfl rfl rfl rfl rfl
set_option maxHeartbeats 1000000 in
set_option maxRecDepth 100000 in
theorem p16 {C : C32} {a : Act} {w : World} {dl il : Nat → Bool} {i0 j0 n m fb gb : Nat} {s : Int} {Q : Exit → Act → World → Prop} (sz : Sz2 C) (hF : Fy C a) (h1 : get a 1 = .int .i64 i0) (h2 : get a 2 = .int .i64 ((i0 : Int) + n)) (h3 : get a 3 = .int .i64 j0) (h4 : get a 4 = .int .i64 ((j0 : Int) + m)) (mem : M C w dl il s (.slice none 0 0) (.slice none 0 0)) (hn : i0 + n ≤ C.la) (hm : j0 + m ≤ C.lb) (hdb : C.db < w.heap.size) (hib : C.ib < w.heap.size) (hab : C.ab ≠ w.heap.size ∧ C.ab ≠ w.heap.size + 1) (hbb : C.bb ≠ w.heap.size ∧ C.bb ≠ w.heap.size + 1)
    (hQ : Hid (∀ a' w' fb gb, Fy C a' → get a' 1 = .int .i64 i0 → get a' 2 = .int .i64 ((i0 : Int) + n) → get a' 3 = .int .i64 j0 → get a' 4 = .int .i64 ((j0 : Int) + m) → M C w' dl il s (.slice (some ⟨fb, 0, none⟩) (n + m + 3) (n + m + 3)) (.slice (some ⟨gb, 0, none⟩) (n + m + 3) (n + m + 3)) → Al C w' fb gb (n + m + 3) → Fm C w w' → w.heap.size ≤ fb → w.heap.size ≤ gb → Q .normal a' w')) :
    Code.wp Try.prog (sub2 [true, true, true, true, false, true, false] (bodyOf Try.f32)) Q a w := by
  conv => arg 2; whnf
  obtain ⟨hd, hs, g0, g10⟩ := hF
  have zla := sz.la
  have zlb := sz.lb
  have c4 := mem.d4
  have c5 := mem.d5
  have z4 := mem.dfz 4
  have z5 := mem.dfz 5
  have hpd : C.pd < w.heap.size := cell_lt c4
  rw [lit32 a hd hs]
  generalize get a = g at *
  simp only [g0, g10, h1, h2, h3, h4]
  clear hd hs g0 g10 h1 h2 h3 h4
  obtain ⟨Z, hZ, hmk⟩ : ∃ Z : Array Value, Z.size = n + m + 3 ∧ ∀ w, (Instr.makeSlice 40 (.int .i64 ((n : Int) + m + 3)) (.int .i64 ((n : Int) + m + 3))).run Try.prog w = .ok (.slice (some ⟨w.heap.size, 0, none⟩) (n + m + 3) (n + m + 3)) (w.alloc (.cells Z 3)) :=
    ⟨_, by simp [size_madeCells], fun w => make40 (n + m + 3) (by omega) w⟩
  have HZ : Hid (Z.size = n + m + 3) := hZ
  have MEM : Hid (M C w dl il s (.slice none 0 0) (.slice none 0 0)) := mem
  have HAB : Hid (C.ab ≠ w.heap.size ∧ C.ab ≠ w.heap.size + 1) := hab
  have HBB : Hid (C.bb ≠ w.heap.size ∧ C.bb ≠ w.heap.size + 1) := hbb
  have HDB : Hid (C.db < w.heap.size) := hdb
  have HIB : Hid (C.ib < w.heap.size) := hib
  clear hZ mem hab hbb hdb hib
  have hz : (i0 : Int) + n - i0 + (j0 + m) - j0 + 3 = (n : Int) + m + 3 := by omega
  go_wp2
  clear hz
  go_region
  · have L := rows_laid (fb := w.heap.size) (gb := w.heap.size + 1) sz MEM.out HZ.out (by omega) (.inl ⟨rfl, rfl⟩) hpd HDB.out HIB.out HAB.out HBB.out _ rfl
    exact hQ.out _ _ w.heap.size (w.heap.size + 1) ⟨rfl, rfl, rfl, rfl⟩ rfl rfl rfl rfl L.1 L.2.1 L.2.2 (by omega) (by omega)
  · have L := rows_laid (fb := w.heap.size + 1) (gb := w.heap.size) sz MEM.out HZ.out (by omega) (.inr ⟨rfl, rfl⟩) hpd HDB.out HIB.out HAB.out HBB.out _ rfl
    exact hQ.out _ _ (w.heap.size + 1) w.heap.size ⟨rfl, rfl, rfl, rfl⟩ rfl rfl rfl rfl L.1 L.2.1 L.2.2 (by omega) (by omega)

/-- THE CONTRACT OF compare AT ITS FIRST CALL -/
theorem cmp_nil {C : C32} (sz : Sz2 C) (i0 i1 j0 j1 : Nat) (dl il : Nat → Bool) (s : Int) (w : World) (hi : i0 ≤ i1) (hj : j0 ≤ j1) (hla : i1 ≤ C.la) (hlb : j1 ≤ C.lb) (f : Nat) (hf : (i1 - i0) + (j1 - j0) ≤ f) (hs0 : -2147483648 ≤ s) (hs1 : s ≤ 9223372036854775807)
    (mem : M C w dl il s (.slice none 0 0) (.slice none 0 0)) (hdb : C.db < w.heap.size) (hib : C.ib < w.heap.size) (hab : C.ab ≠ w.heap.size ∧ C.ab ≠ w.heap.size + 1) (hbb : C.bb ≠ w.heap.size ∧ C.bb ≠ w.heap.size + 1) :
    Calls Try.prog 32 #[.pointer (some ⟨C.pd, 0, none⟩), .int .i64 i0, .int .i64 i1, .int .i64 j0, .int .i64 j1] w fun e w' =>
      e = .returned (.bool (My.cmp C.A C.B (f + 1) i0 i1 j0 j1 (dl, il, s)).1) ∧ (∃ vf vg, M C w' (My.cmp C.A C.B (f + 1) i0 i1 j0 j1 (dl, il, s)).2.1 (My.cmp C.A C.B (f + 1) i0 i1 j0 j1 (dl, il, s)).2.2.1 (My.cmp C.A C.B (f + 1) i0 i1 j0 j1 (dl, il, s)).2.2.2 vf vg) ∧ Fm C w w' := by
  obtain ⟨p, q, u, v, e1, e2, tr⟩ := My.trim_spec C.A C.B i0 i1 j0 j1 hi hj
  have t1 := tr.p0; have t2 := tr.pu; have t3 := tr.u1; have t4 := tr.q0; have t5 := tr.qv; have t6 := tr.v1
  have zla := sz.la
  have zlb := sz.lb
  rw [My.cmp_step C.A C.B f i0 i1 j0 j1 _ e1 e2]
  refine cmp_head sz hi hj hla hlb e1 e2 tr mem ?_ ?_
  · intro he w' mem' kp'
    rw [if_pos he]
    exact ⟨rfl, ⟨_, _, mem'⟩, kp'.fm⟩
  · intro hpu hqv a' w' hF h1 h2 h3 h4 mem' kp'
    rw [if_neg (by omega)]
    have eu : ((u : Nat) : Int) = (p : Int) + ((u - p : Nat) : Int) := by omega
    have ev : ((v : Nat) : Int) = (q : Int) + ((v - q : Nat) : Int) := by omega
    rw [k4]
    refine wp_seq ?_
    rw [k4l]
    refine wp_seq ?_
    refine p15_nil sz hF h1 h2 h3 h4 mem' ?_
    clear hF h1 h2 h3 h4 a'
    intro a' hF h1 h2 h3 h4 h115
    show Code.wp Try.prog (sub2 [true, true, true, true, false, true] (bodyOf Try.f32)) _ a' w'
    rw [k4c]
    refine wp_cond_true (evalTmp a' 115 _ h115) ?_
    refine p16 (fb := 0) (gb := 0) (n := u - p) (m := v - q) sz hF h1 (h2.trans (congrArg (Value.int .i64) eu)) h3 (h4.trans (congrArg (Value.int .i64) ev)) mem' (by omega) (by omega) (by rw [kp'.size]; exact hdb) (by rw [kp'.size]; exact hib) (by rw [kp'.size]; exact hab) (by rw [kp'.size]; exact hbb) ?_
    clear hF h1 h2 h3 h4 h115 a'
    intro a' w2 fb gb hF h1 h2 h3 h4 mem2 al2 fm2 hfb hgb
    show Code.wp Try.prog (sub2 [true, true, true, true, true] (bodyOf Try.f32)) _ a' w2
    refine cmp_rest (N := u - p + (v - q) + 3) (f := f) sz hF h1 (h2.trans (congrArg (Value.int .i64) eu.symm)) h3 (h4.trans (congrArg (Value.int .i64) ev.symm)) mem2 al2 (cmp_al sz fb gb _ f) hpu hqv (tr.ne hpu hqv) (tr.nr hpu hqv) (by omega) (by omega) (by omega) (by omega) hs0 hs1 ?_
    intro w3 r hr mem3 al3 sk3
    rw [← hr]
    rw [kp'.size] at hfb hgb
    exact ⟨rfl, ⟨_, _, mem3⟩, sk3.fm (kp'.fm.trans fm2) hfb hgb⟩
#print axioms cmp_nil
end Go.Proofs.Qxb6601687a
