/-
  compact (function 36): the slots.
-/
import Derived.Test.Qxb6601687aCptB
namespace Go.Proofs.Qxb6601687a
open Go.RowKit
set_option linter.unusedVariables false
set_option linter.unusedSimpArgs false

/-- the slots gathered from the first i lines -/
def Ls (o : Nat → Bool) (i : Nat) : List Value := (List.range (Cm.un o i)).map fun k => .bool (Cm.sl o i k)
theorem Ls_len (o : Nat → Bool) (i : Nat) : (Ls o i).length = Cm.un o i := by simp [Ls]
theorem Ls_on {o : Nat → Bool} {i : Nat} (h : o i = true) : Ls o (i + 1) = Ls o i := by
  unfold Ls
  rw [Cm.un_on h]
  refine List.map_congr_left fun k hk => ?_
  have := List.mem_range.1 hk
  rw [Cm.sl_keep (by omega)]
theorem Ls_off {o : Nat → Bool} {i : Nat} (h : o i = false) : Ls o (i + 1) = Ls o i ++ [.bool (Cm.sl o i (Cm.un o i))] := by
  unfold Ls
  rw [Cm.un_off h, List.range_succ, List.map_append]
  congr 1
  · refine List.map_congr_left fun k hk => ?_
    rw [Cm.sl_off h]
  · simp [Cm.sl_off h]

structure Y36 where
  (la ca oa : Option Addr)
  (n m ob B0 : Nat)
  (o : Nat → Bool)

structure P36 (Y : Y36) (a : Act) : Prop where
  d : a.defers = []
  s : a.tmps.size = 171
  g0 : get a 0 = .slice Y.la Y.n Y.n
  g1 : get a 1 = .slice Y.ca Y.n Y.n
  g2 : get a 2 = .slice Y.oa Y.m Y.m

structure W36 (Y : Y36) (w0 w : World) (v : Value) (xs : List Value) : Prop where
  B : Y.B0 = w0.heap.size
  m : Y.m ≤ 4096
  n : Y.n ≤ 4096
  bel : Below Y.B0 w0 w
  own : w.ownsRow Y.B0 4 1 v xs.length xs
  bs : Bs w0 Y.oa Y.ob 0 Y.m Y.o

theorem W36.cell {Y w0 w v xs} (h : W36 Y w0 w v xs) (i : Nat) (hi : i < Y.m) : w.cell? ⟨Y.ob, i, none⟩ = some (.bool (Y.o i)) := by
  rw [h.bel.cell (p := ⟨Y.ob, i, none⟩) (by rw [h.B]; exact h.bs.lt (by omega))]
  have := h.bs.cells i hi
  rwa [Nat.zero_add] at this
theorem W36.grown {Y w0 w v xs} {o : Obj} {v' : Value} {w1 : World} {x : Value} (h : W36 Y w0 w v xs) (ho : w1.ownsRow Y.B0 4 1 v' (xs.length + 1) (xs ++ [x])) (hg : (w.alloc o).grownBy w1 v.ownBlock) : W36 Y w0 w1 v' (xs ++ [x]) := by
  refine ⟨h.B, h.m, h.n, ?_, by simpa using ho, h.bs⟩
  have hb : Below Y.B0 w0 (w.alloc o) := h.bel.alloc (by rw [h.B]; exact h.bel.size) o
  exact hb.grown hg (by rw [h.B]; exact hb.size) (fun k hk => (h.own.lt k hk).1)

set_option maxHeartbeats 1000000 in
set_option maxRecDepth 100000 in
theorem s_on {Y : Y36} {a : Act} {w0 w : World} {v : Value} {xs : List Value} {i : Nat} {gp : Bool} {Q : Exit → Act → World → Prop} (hF : P36 Y a) (h6 : get a 6 = v) (h7 : get a 7 = .bool gp) (h16 : get a 16 = .slice Y.oa Y.m Y.m) (h17 : get a 17 = .int .i64 (Y.m : Int)) (h18 : get a 18 = .int .i64 (i : Int)) (mem : W36 Y w0 w v xs) (hi : i < Y.m) (hc : Y.o i = true)
    (hQ : Hid (∀ a', P36 Y a' → get a' 6 = v → get a' 7 = .bool true → get a' 16 = .slice Y.oa Y.m Y.m → get a' 17 = .int .i64 (Y.m : Int) → get a' 18 = .int .i64 ((i : Int) + 1) → Q .normal a' w)) :
    Code.wp Try.prog (sub2 [true, true, false, true, false, false] (bodyOf Try.f36)) Q a w := by
  conv => arg 2; whnf
  obtain ⟨hd, hs, g0, g1, g2⟩ := hF
  have zm := mem.m
  have zn := mem.n
  have MEM : Hid (W36 Y w0 w v xs) := mem
  have eo := mem.bs.at_ (by omega)
  have EO : Hid (Y.oa = some ⟨Y.ob, 0, none⟩) := eo
  have co := mem.cell i (by omega)
  rw [hc] at co
  rw [eo] at g2 h16
  clear eo
  have hh : (i : Int) < Y.m := by omega
  clear mem
  rw [lit36 a hd hs]
  generalize get a = g at *
  simp only [g0, g1, g2, h6, h7, h16, h17, h18]
  clear hd hs g0 g1 g2 h6 h7 h16 h17 h18
  go_wp2
  exact hQ.out _ ⟨rfl, rfl, rfl, rfl, by rw [EO.out]; rfl⟩ rfl rfl (by rw [EO.out]; rfl) rfl rfl
set_option maxHeartbeats 1000000 in
set_option maxRecDepth 100000 in
theorem s_out {Y : Y36} {a : Act} {w0 w : World} {v : Value} {xs : List Value} {i : Nat} {gp : Bool} {Q : Exit → Act → World → Prop} (hF : P36 Y a) (h6 : get a 6 = v) (h7 : get a 7 = .bool gp) (h16 : get a 16 = .slice Y.oa Y.m Y.m) (h17 : get a 17 = .int .i64 (Y.m : Int)) (h18 : get a 18 = .int .i64 (i : Int)) (mem : W36 Y w0 w v xs) (hi : Y.m ≤ i)
    (hQ : Hid (∀ a', P36 Y a' → get a' 6 = v → get a' 7 = .bool gp → get a' 16 = .slice Y.oa Y.m Y.m → get a' 17 = .int .i64 (Y.m : Int) → get a' 18 = .int .i64 (i : Int) → Q (.exit 0) a' w)) :
    Code.wp Try.prog (sub2 [true, true, false, true, false, false] (bodyOf Try.f36)) Q a w := by
  conv => arg 2; whnf
  obtain ⟨hd, hs, g0, g1, g2⟩ := hF
  have zm := mem.m
  have zn := mem.n
  have MEM : Hid (W36 Y w0 w v xs) := mem
  have hh : (Y.m : Int) ≤ i := by omega
  clear mem
  rw [lit36 a hd hs]
  generalize get a = g at *
  simp only [g0, g1, g2, h6, h7, h16, h17, h18]
  clear hd hs g0 g1 g2 h6 h7 h16 h17 h18
  go_wp2
  exact hQ.out _ ⟨rfl, rfl, rfl, rfl, rfl⟩ rfl rfl rfl rfl rfl
set_option maxHeartbeats 1000000 in
set_option maxRecDepth 100000 in
theorem s_off {Y : Y36} {a : Act} {w0 w : World} {v : Value} {xs : List Value} {i : Nat} {gp : Bool} {Q : Exit → Act → World → Prop} (hF : P36 Y a) (h6 : get a 6 = v) (h7 : get a 7 = .bool gp) (h16 : get a 16 = .slice Y.oa Y.m Y.m) (h17 : get a 17 = .int .i64 (Y.m : Int)) (h18 : get a 18 = .int .i64 (i : Int)) (mem : W36 Y w0 w v xs) (hi : i < Y.m) (hc : Y.o i = false) (hx : xs.length ≤ 4096)
    (hQ : Hid (∀ a' w' v', P36 Y a' → get a' 6 = v' → get a' 7 = .bool false → get a' 16 = .slice Y.oa Y.m Y.m → get a' 17 = .int .i64 (Y.m : Int) → get a' 18 = .int .i64 ((i : Int) + 1) → W36 Y w0 w' v' (xs ++ [.bool gp]) → Q .normal a' w')) :
    Code.wp Try.prog (sub2 [true, true, false, true, false, false] (bodyOf Try.f36)) Q a w := by
  conv => arg 2; whnf
  obtain ⟨hd, hs, g0, g1, g2⟩ := hF
  have zm := mem.m
  have zn := mem.n
  have MEM : Hid (W36 Y w0 w v xs) := mem
  have eo := mem.bs.at_ (by omega)
  have EO : Hid (Y.oa = some ⟨Y.ob, 0, none⟩) := eo
  have co := mem.cell i (by omega)
  rw [hc] at co
  rw [eo] at g2 h16
  clear eo
  have hh : (i : Int) < Y.m := by omega
  clear mem
  rw [lit36 a hd hs]
  generalize get a = g at *
  simp only [g0, g1, g2, h6, h7, h16, h17, h18]
  clear hd hs g0 g1 g2 h6 h7 h16 h17 h18
  obtain ⟨i0, hi0, hz0, hz1, hz2⟩ := info_parts Try.info4
  have LEN : Hid (xs.length ≤ 4096) := hx
  go_wp2_with (first
    | (at_builtin; refine wpList_append_own _ rfl _ _ 25 rfl Y.B0 4 i0 (.bool false) 1 1 Try.underlying25 hi0 hz0 hz1 hz2 rfl (by decide) _ _ _ rfl (MEM.out.own.alloc _) ⟨w.heap.size, 0, none⟩ 1 1 [.bool gp] rfl rfl ?c1 ?c2 ?c3 ?c4 ?c5 ?_)
    | go_in)
  case c1 =>
    intro j u hj
    match j, hj with
    | 0, hj => simp at hj; subst hj; simp [Addr.add]
  case c2 => intro u hu; simp at hu; subst hu; rfl
  case c3 => have := LEN.out; unfold maxLen; omega
  case c4 => have := LEN.out; omega
  case c5 => have := MEM.out.bel.size; have := MEM.out.B; simp; omega
  intro v' w1 hown' hgrow _
  have KEEP : Hid (W36 Y w0 w1 v' (xs ++ [.bool gp])) := MEM.out.grown hown' hgrow
  clear hown' hgrow
  go_wp2
  exact hQ.out _ _ _ ⟨rfl, rfl, rfl, rfl, by rw [EO.out]; rfl⟩ rfl rfl (by rw [EO.out]; rfl) rfl rfl KEEP.out
set_option maxHeartbeats 1000000 in
set_option maxRecDepth 100000 in
theorem s10 {Y : Y36} {a : Act} {w0 w : World} {v : Value} {xs : List Value} {gp : Bool} {Q : Exit → Act → World → Prop} (hF : P36 Y a) (h6 : get a 6 = v) (h7 : get a 7 = .bool gp) (mem : W36 Y w0 w v xs) (hx : xs.length ≤ 4096)
    (hQ : Hid (∀ a' w' v', P36 Y a' → get a' 6 = v' → W36 Y w0 w' v' (xs ++ [.bool gp]) → Q .normal a' w')) :
    Code.wp Try.prog (sub2 [true, true, true, false] (bodyOf Try.f36)) Q a w := by
  conv => arg 2; whnf
  obtain ⟨hd, hs, g0, g1, g2⟩ := hF
  have zm := mem.m
  have zn := mem.n
  have MEM : Hid (W36 Y w0 w v xs) := mem
  clear mem
  rw [lit36 a hd hs]
  generalize get a = g at *
  simp only [g0, g1, g2, h6, h7]
  clear hd hs g0 g1 g2 h6 h7
  obtain ⟨i0, hi0, hz0, hz1, hz2⟩ := info_parts Try.info4
  have LEN : Hid (xs.length ≤ 4096) := hx
  go_wp2_with (first
    | (at_builtin; refine wpList_append_own _ rfl _ _ 25 rfl Y.B0 4 i0 (.bool false) 1 1 Try.underlying25 hi0 hz0 hz1 hz2 rfl (by decide) _ _ _ rfl (MEM.out.own.alloc _) ⟨w.heap.size, 0, none⟩ 1 1 [.bool gp] rfl rfl ?c1 ?c2 ?c3 ?c4 ?c5 ?_)
    | go_in)
  case c1 =>
    intro j u hj
    match j, hj with
    | 0, hj => simp at hj; subst hj; simp [Addr.add]
  case c2 => intro u hu; simp at hu; subst hu; rfl
  case c3 => have := LEN.out; unfold maxLen; omega
  case c4 => have := LEN.out; omega
  case c5 => have := MEM.out.bel.size; have := MEM.out.B; simp; omega
  intro v' w1 hown' hgrow _
  have KEEP : Hid (W36 Y w0 w1 v' (xs ++ [.bool gp])) := MEM.out.grown hown' hgrow
  clear hown' hgrow
  go_wp2
  exact hQ.out _ _ _ ⟨rfl, rfl, rfl, rfl, rfl⟩ rfl KEEP.out
set_option maxHeartbeats 1000000 in
set_option maxRecDepth 100000 in
theorem t0 {Y : Y36} {a : Act} {w0 w : World} {v : Value} {xs : List Value} {Q : Exit → Act → World → Prop} (hF : P36 Y a)  (mem : W36 Y w0 w v xs) 
    (hQ : Hid (∀ a', P36 Y a' → get a' 6 = .slice none 0 0 → Q .normal a' w)) :
    Code.wp Try.prog (sub2 [false] (bodyOf Try.f36)) Q a w := by
  conv => arg 2; whnf
  obtain ⟨hd, hs, g0, g1, g2⟩ := hF
  have zm := mem.m
  have zn := mem.n
  have MEM : Hid (W36 Y w0 w v xs) := mem
  clear mem
  rw [lit36 a hd hs]
  generalize get a = g at *
  simp only [g0, g1, g2]
  clear hd hs g0 g1 g2
  go_wp2
  exact hQ.out _ ⟨rfl, rfl, rfl, rfl, rfl⟩ rfl
set_option maxHeartbeats 1000000 in
set_option maxRecDepth 100000 in
theorem t1 {Y : Y36} {a : Act} {w0 w : World} {v : Value} {xs : List Value} {Q : Exit → Act → World → Prop} (hF : P36 Y a) (h6 : get a 6 = v) (mem : W36 Y w0 w v xs) 
    (hQ : Hid (∀ a', P36 Y a' → get a' 6 = v → get a' 7 = .bool false → Q .normal a' w)) :
    Code.wp Try.prog (sub2 [true, false] (bodyOf Try.f36)) Q a w := by
  conv => arg 2; whnf
  obtain ⟨hd, hs, g0, g1, g2⟩ := hF
  have zm := mem.m
  have zn := mem.n
  have MEM : Hid (W36 Y w0 w v xs) := mem
  clear mem
  rw [lit36 a hd hs]
  generalize get a = g at *
  simp only [g0, g1, g2, h6]
  clear hd hs g0 g1 g2 h6
  go_wp2
  exact hQ.out _ ⟨rfl, rfl, rfl, rfl, rfl⟩ rfl rfl
set_option maxHeartbeats 1000000 in
set_option maxRecDepth 100000 in
theorem t2 {Y : Y36} {a : Act} {w0 w : World} {v : Value} {xs : List Value} {gp : Bool} {Q : Exit → Act → World → Prop} (hF : P36 Y a) (h6 : get a 6 = v) (h7 : get a 7 = .bool gp) (mem : W36 Y w0 w v xs) 
    (hQ : Hid (∀ a', P36 Y a' → get a' 6 = v → get a' 7 = .bool gp → get a' 16 = .slice Y.oa Y.m Y.m → get a' 17 = .int .i64 (Y.m : Int) → get a' 18 = .int .i64 0 → Q .normal a' w)) :
    Code.wp Try.prog (sub2 [true, true, false, false] (bodyOf Try.f36)) Q a w := by
  conv => arg 2; whnf
  obtain ⟨hd, hs, g0, g1, g2⟩ := hF
  have zm := mem.m
  have zn := mem.n
  have MEM : Hid (W36 Y w0 w v xs) := mem
  clear mem
  rw [lit36 a hd hs]
  generalize get a = g at *
  simp only [g0, g1, g2, h6, h7]
  clear hd hs g0 g1 g2 h6 h7
  go_wp2
  exact hQ.out _ ⟨rfl, rfl, rfl, rfl, rfl⟩ rfl rfl rfl rfl rfl
set_option maxHeartbeats 1000000 in
set_option maxRecDepth 100000 in
theorem t11 {Y : Y36} {a : Act} {w0 w : World} {v : Value} {xs : List Value} {Q : Exit → Act → World → Prop} (hF : P36 Y a) (h6 : get a 6 = v) (mem : W36 Y w0 w v xs) 
    (hQ : Hid (∀ a', P36 Y a' → get a' 6 = v → get a' 10 = .int .i64 (Y.n : Int) → Q .normal a' w)) :
    Code.wp Try.prog (sub2 [true, true, true, true, false] (bodyOf Try.f36)) Q a w := by
  conv => arg 2; whnf
  obtain ⟨hd, hs, g0, g1, g2⟩ := hF
  have zm := mem.m
  have zn := mem.n
  have MEM : Hid (W36 Y w0 w v xs) := mem
  clear mem
  rw [lit36 a hd hs]
  generalize get a = g at *
  simp only [g0, g1, g2, h6]
  clear hd hs g0 g1 g2 h6
  go_wp2
  exact hQ.out _ ⟨rfl, rfl, rfl, rfl, rfl⟩ rfl rfl
set_option maxHeartbeats 1000000 in
set_option maxRecDepth 100000 in
theorem t12 {Y : Y36} {a : Act} {w0 w : World} {v : Value} {xs : List Value} {Q : Exit → Act → World → Prop} (hF : P36 Y a) (h6 : get a 6 = v) (h10 : get a 10 = .int .i64 (Y.n : Int)) (mem : W36 Y w0 w v xs) 
    (hQ : Hid (∀ a', P36 Y a' → get a' 6 = v → get a' 10 = .int .i64 (Y.n : Int) → get a' 11 = .int .i64 0 → Q .normal a' w)) :
    Code.wp Try.prog (sub2 [true, true, true, true, true, false] (bodyOf Try.f36)) Q a w := by
  conv => arg 2; whnf
  obtain ⟨hd, hs, g0, g1, g2⟩ := hF
  have zm := mem.m
  have zn := mem.n
  have MEM : Hid (W36 Y w0 w v xs) := mem
  clear mem
  rw [lit36 a hd hs]
  generalize get a = g at *
  simp only [g0, g1, g2, h6, h10]
  clear hd hs g0 g1 g2 h6 h10
  go_wp2
  exact hQ.out _ ⟨rfl, rfl, rfl, rfl, rfl⟩ rfl rfl rfl
set_option maxHeartbeats 1000000 in
set_option maxRecDepth 100000 in
theorem t13 {Y : Y36} {a : Act} {w0 w : World} {v : Value} {xs : List Value} {Q : Exit → Act → World → Prop} (hF : P36 Y a) (h6 : get a 6 = v) (h10 : get a 10 = .int .i64 (Y.n : Int)) (h11 : get a 11 = .int .i64 0) (mem : W36 Y w0 w v xs) 
    (hQ : Hid (∀ a', P36 Y a' → get a' 6 = v → get a' 10 = .int .i64 (Y.n : Int) → get a' 11 = .int .i64 0 → get a' 12 = .int .i64 0 → Q .normal a' w)) :
    Code.wp Try.prog (sub2 [true, true, true, true, true, true, false] (bodyOf Try.f36)) Q a w := by
  conv => arg 2; whnf
  obtain ⟨hd, hs, g0, g1, g2⟩ := hF
  have zm := mem.m
  have zn := mem.n
  have MEM : Hid (W36 Y w0 w v xs) := mem
  clear mem
  rw [lit36 a hd hs]
  generalize get a = g at *
  simp only [g0, g1, g2, h6, h10, h11]
  clear hd hs g0 g1 g2 h6 h10 h11
  go_wp2
  exact hQ.out _ ⟨rfl, rfl, rfl, rfl, rfl⟩ rfl rfl rfl rfl
theorem j0 : sub2 [] (bodyOf Try.f36) = .seq (sub2 [false] (bodyOf Try.f36)) (sub2 [true] (bodyOf Try.f36)) := by kernel_rfl
theorem j1 : sub2 [true] (bodyOf Try.f36) = .seq (sub2 [true, false] (bodyOf Try.f36)) (sub2 [true, true] (bodyOf Try.f36)) := by kernel_rfl
theorem j2 : sub2 [true, true] (bodyOf Try.f36) = .seq (sub2 [true, true, false] (bodyOf Try.f36)) (sub2 [true, true, true] (bodyOf Try.f36)) := by kernel_rfl
theorem j2l : sub2 [true, true, false] (bodyOf Try.f36) = .seq (sub2 [true, true, false, false] (bodyOf Try.f36)) (sub2 [true, true, false, true] (bodyOf Try.f36)) := by kernel_rfl
theorem j2b : sub2 [true, true, false, true] (bodyOf Try.f36) = .block 0 (sub2 [true, true, false, true, false] (bodyOf Try.f36)) := by kernel_rfl
theorem j2o : sub2 [true, true, false, true, false] (bodyOf Try.f36) = .loop (sub2 [true, true, false, true, false, false] (bodyOf Try.f36)) := by kernel_rfl
theorem j3 : sub2 [true, true, true] (bodyOf Try.f36) = .seq (sub2 [true, true, true, false] (bodyOf Try.f36)) (sub2 [true, true, true, true] (bodyOf Try.f36)) := by kernel_rfl
theorem j4 : sub2 [true, true, true, true] (bodyOf Try.f36) = .seq (sub2 [true, true, true, true, false] (bodyOf Try.f36)) (sub2 [true, true, true, true, true] (bodyOf Try.f36)) := by kernel_rfl
theorem j5 : sub2 [true, true, true, true, true] (bodyOf Try.f36) = .seq (sub2 [true, true, true, true, true, false] (bodyOf Try.f36)) (sub2 [true, true, true, true, true, true] (bodyOf Try.f36)) := by kernel_rfl
theorem j6 : sub2 [true, true, true, true, true, true] (bodyOf Try.f36) = .seq (sub2 [true, true, true, true, true, true, false] (bodyOf Try.f36)) (sub2 [true, true, true, true, true, true, true] (bodyOf Try.f36)) := by kernel_rfl
theorem j7 : sub2 [true, true, true, true, true, true, true] (bodyOf Try.f36) = .block 2 (sub2 [true, true, true, true, true, true, true, false] (bodyOf Try.f36)) := by kernel_rfl
theorem j8 : sub2 [true, true, true, true, true, true, true, false] (bodyOf Try.f36) = .loop (sub2 [true, true, true, true, true, true, true, false, false] (bodyOf Try.f36)) := by kernel_rfl

structure G36 (Y : Y36) (a : Act) (v : Value) (gp : Bool) (i : Nat) : Prop where
  P : P36 Y a
  h6 : get a 6 = v
  h7 : get a 7 = .bool gp
  h16 : get a 16 = .slice Y.oa Y.m Y.m
  h17 : get a 17 = .int .i64 (Y.m : Int)
  h18 : get a 18 = .int .i64 (i : Int)

theorem slots1 {Y : Y36} {w0 : World} {Q : Exit → Act → World → Prop} (k : Nat) : ∀ (a : Act) (w : World) (v : Value) (i : Nat), G36 Y a v (Cm.sl Y.o i (Cm.un Y.o i)) i → W36 Y w0 w v (Ls Y.o i) → i + k = Y.m →
    (∀ a' w' v', P36 Y a' → get a' 6 = v' → get a' 7 = .bool (Cm.sl Y.o Y.m (Cm.un Y.o Y.m)) → W36 Y w0 w' v' (Ls Y.o Y.m) → Q (.exit 0) a' w') →
    Code.rounds Try.prog (sub2 [true, true, false, true, false, false] (bodyOf Try.f36)) Q (k + 1) a w := by
  induction k with
  | zero =>
    intro a w v i G mem hik hQ
    rw [rounds_succ]
    obtain rfl : i = Y.m := by omega
    refine s_out G.P G.h6 G.h7 G.h16 G.h17 G.h18 mem (Nat.le_refl _) ?_
    intro a' P h6 h7 h16 h17 h18
    exact hQ a' w v P h6 h7 mem
  | succ k ih =>
    intro a w v i G mem hik hQ
    rw [rounds_succ]
    cases hc : Y.o i
    · have hle := Cm.un_le Y.o i
      have hm := mem.m
      refine s_off G.P G.h6 G.h7 G.h16 G.h17 G.h18 mem (by omega) hc (by rw [Ls_len]; omega) ?_
      intro a' w' v' P h6 h7 h16 h17 h18 mem'
      rw [← Ls_off hc] at mem'
      exact ih a' w' v' (i + 1) ⟨P, h6, by rw [h7, Cm.sl_new hc], h16, h17, h18⟩ mem' (by omega) hQ
    · refine s_on G.P G.h6 G.h7 G.h16 G.h17 G.h18 mem (by omega) hc ?_
      intro a' P h6 h7 h16 h17 h18
      refine ih a' w v (i + 1) ⟨P, h6, by rw [h7, Cm.sl_on hc], h16, h17, h18⟩ (by rw [Ls_on hc]; exact mem) (by omega) hQ
end Go.Proofs.Qxb6601687a
