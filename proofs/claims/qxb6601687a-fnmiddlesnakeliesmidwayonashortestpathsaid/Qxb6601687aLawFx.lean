/-
  THE WALK OF FnMiddleSnakeLiesMidwayOnAShortestPath (function 6).
-/
import Derived.Test.Qxb6601687aZzms
import Derived.Test.Qxb6601687aLcsB
import Derived.Test.Qxb6601687aMid
import Derived.Deep.RegionWith
namespace Go.Proofs.Qxb6601687a
open Go.RowKit
set_option linter.unusedVariables false
set_option linter.unusedSimpArgs false

theorem Row.below {k : IntKind} {w w' : World} {a : Option Addr} {len cap : Nat} {zs : List Int} (h : Row k w a len cap zs) (hb : Below w.heap.size w w') : Row k w' a len cap zs := by
  rcases h with h | ⟨x, h1, h2, h3, h4, h5, h6⟩
  · exact .inl h
  · refine .inr ⟨x, h1, h2, h3, h4, fun i hi => ?_, h6⟩
    rw [hb.cell (cell_lt (h5 i hi))]; exact h5 i hi

/-- a row of numbers that is only read -/
structure In (v : World) (ab la : Nat) (A : Nat → Int) : Prop where
  cells : ∀ i, i < la → v.cell? ⟨ab, i, none⟩ = some (.int .i32 (A i))
  lt : 0 < la → ab < v.heap.size

theorem In.of_below {v v' : World} {ab la : Nat} {A : Nat → Int} (h : In v ab la A) (hb : Below v.heap.size v v') : In v' ab la A :=
  ⟨fun i hi => by rw [hb.cell (p := ⟨ab, i, none⟩) (h.lt (by omega))]; exact h.cells i hi, fun h0 => Nat.lt_of_lt_of_le (h.lt h0) hb.size⟩
/-- THE COPY OF A SLICE, its capacity told -/
theorem clone_in (a : Option Addr) (len cap : Nat) (zs : List Int) (w : World) (h : Row .i32 w a len cap zs) (hl : len ≤ 1024) :
    Calls Try.prog 13 #[.slice a len cap] w fun e w' => ∃ aa, e = .returned (.slice aa len len) ∧ ((aa = none ∧ len = 0) ∨ aa = some ⟨w.heap.size, 0, none⟩) ∧ Below w.heap.size w w' ∧ In w' w.heap.size len (fun i => zs.getD i 0) := by
  rcases h with ⟨rfl, rfl, rfl, rfl⟩ | ⟨x, rfl, h1, h2, h3, h4, h5⟩
  · refine (clone_nil w).mono ?_
    rintro e w' ⟨rfl, rfl⟩
    exact ⟨none, rfl, .inl ⟨rfl, rfl⟩, Below.refl _ _, by omega, by omega⟩
  · by_cases h0 : len = 0
    · subst h0
      refine (clone_zero x cap w).mono ?_
      rintro e w' ⟨rfl, rfl⟩
      exact ⟨_, rfl, .inr rfl, (Below.refl _ _).alloc (Nat.le_refl _) _, by omega, by omega⟩
    · obtain ⟨b, off, spot⟩ := x
      have hc0 := h4 0 (by omega)
      have hspot : spot = none := by simpa [Addr.add] using World.cell?_spot hc0
      subst hspot
      have hb : b < w.heap.size := by have := cell_lt hc0; simpa [Addr.add] using this
      refine (clone_some b off len cap (fun i => zs.getD i 0) w (by omega) (by omega) hb (fun i hi => ?_)).mono ?_
      · rw [← addr_add]; exact h4 i (by omega)
      · rintro e w' ⟨rfl, rfl⟩
        refine ⟨_, rfl, .inr rfl, (Below.refl _ _).alloc (Nat.le_refl _) _, fun i hi => ?_, fun _ => by simp⟩
        rw [World.cell?_alloc_at (hn := rfl), cp_get _ _ _ _ _ hi, if_pos hi]

/-- ZZMiddleSnake, an empty slice's block left out -/
theorem mz_law (aa ba : Option Addr) (ab bb la ca lb cb : Nat) (x0 y0 s : Int) (n m : Nat) (A B : Nat → Int) (w : World) (hx0 : 0 ≤ x0) (hy0 : 0 ≤ y0) (hx1 : x0 + n ≤ la) (hy1 : y0 + m ≤ lb) (hla : la ≤ 1024) (hlb : lb ≤ 1024)
    (hs0 : -2147483648 ≤ s) (hs1 : s ≤ 9223372036854775807)
    (haa : 0 < la → aa = some ⟨ab, 0, none⟩) (hba : 0 < lb → ba = some ⟨bb, 0, none⟩)
    (hab : 0 < la → ab < w.heap.size) (hbb : 0 < lb → bb < w.heap.size)
    (cA : ∀ i, i < la → w.cell? ⟨ab, i, none⟩ = some (.int .i32 (A i))) (cB : ∀ i, i < lb → w.cell? ⟨bb, i, none⟩ = some (.int .i32 (B i))) :
    Calls Try.prog 21 #[.slice aa la ca, .slice ba lb cb, .int .i64 s, .int .i64 x0, .int .i64 (x0 + n), .int .i64 y0, .int .i64 (y0 + m)] w fun e w' =>
      e = .returned (out6 (My.ms (fun i => A (x0.toNat + i)) (fun i => B (y0.toNat + i)) n m s)) ∧ Below w.heap.size w w' := by
  by_cases h1 : la = 0
  · by_cases h2 : lb = 0
    · exact mz_any aa ba (w.heap.size + 3) (w.heap.size + 3) la ca lb cb x0 y0 s n m A B w hx0 hy0 hx1 hy1 hla hlb hs0 hs1 (by omega) (by omega) (.inr ⟨h1, by omega⟩) (.inr ⟨h2, by omega⟩) (by omega) (by omega)
    · exact mz_any aa ba (w.heap.size + 3) bb la ca lb cb x0 y0 s n m A B w hx0 hy0 hx1 hy1 hla hlb hs0 hs1 (by omega) hba (.inr ⟨h1, by omega⟩) (.inl (hbb (by omega))) (by omega) cB
  · by_cases h2 : lb = 0
    · exact mz_any aa ba ab (w.heap.size + 3) la ca lb cb x0 y0 s n m A B w hx0 hy0 hx1 hy1 hla hlb hs0 hs1 haa (by omega) (.inl (hab (by omega))) (.inr ⟨h2, by omega⟩) cA (by omega)
    · exact mz_any aa ba ab bb la ca lb cb x0 y0 s n m A B w hx0 hy0 hx1 hy1 hla hlb hs0 hs1 haa hba (.inl (hab (by omega))) (.inl (hbb (by omega))) cA cB


set_option maxRecDepth 100000 in
theorem lit6 (a : Act) (hd : a.defers = []) (hs : a.tmps.size = 177) : a = ⟨#[get a 0, get a 1, get a 2, get a 3, get a 4, get a 5, get a 6, get a 7, get a 8, get a 9, get a 10, get a 11, get a 12, get a 13, get a 14, get a 15, get a 16, get a 17, get a 18, get a 19, get a 20, get a 21, get a 22, get a 23, get a 24, get a 25, get a 26, get a 27, get a 28, get a 29, get a 30, get a 31, get a 32, get a 33, get a 34, get a 35, get a 36, get a 37, get a 38, get a 39, get a 40, get a 41, get a 42, get a 43, get a 44, get a 45, get a 46, get a 47, get a 48, get a 49, get a 50, get a 51, get a 52, get a 53, get a 54, get a 55, get a 56, get a 57, get a 58, get a 59, get a 60, get a 61, get a 62, get a 63, get a 64, get a 65, get a 66, get a 67, get a 68, get a 69, get a 70, get a 71, get a 72, get a 73, get a 74, get a 75, get a 76, get a 77, get a 78, get a 79, get a 80, get a 81, get a 82, get a 83, get a 84, get a 85, get a 86, get a 87, get a 88, get a 89, get a 90, get a 91, get a 92, get a 93, get a 94, get a 95, get a 96, get a 97, get a 98, get a 99, get a 100, get a 101, get a 102, get a 103, get a 104, get a 105, get a 106, get a 107, get a 108, get a 109, get a 110, get a 111, get a 112, get a 113, get a 114, get a 115, get a 116, get a 117, get a 118, get a 119, get a 120, get a 121, get a 122, get a 123, get a 124, get a 125, get a 126, get a 127, get a 128, get a 129, get a 130, get a 131, get a 132, get a 133, get a 134, get a 135, get a 136, get a 137, get a 138, get a 139, get a 140, get a 141, get a 142, get a 143, get a 144, get a 145, get a 146, get a 147, get a 148, get a 149, get a 150, get a 151, get a 152, get a 153, get a 154, get a 155, get a 156, get a 157, get a 158, get a 159, get a 160, get a 161, get a 162, get a 163, get a 164, get a 165, get a 166, get a 167, get a 168, get a 169, get a 170, get a 171, get a 172, get a 173, get a 174, get a 175, get a 176], []⟩ := act_eq a 177 hd hs

/-- what stands fast behind the search -/
structure Y6 where
  (aa ba : Option Addr)
  (ab bb la lb i0 j0 n m x0 y0 x1 y1 : Nat)
  (A B : Nat → Int)

structure F6 (Y : Y6) (a : Act) : Prop where
  d : a.defers = []
  s : a.tmps.size = 177
  g0 : get a 0 = .slice Y.aa Y.la Y.la
  g1 : get a 1 = .slice Y.ba Y.lb Y.lb
  g2 : get a 2 = .int .i64 Y.i0
  g3 : get a 3 = .int .i64 ((Y.i0 : Int) + Y.n)
  g4 : get a 4 = .int .i64 Y.j0
  g5 : get a 5 = .int .i64 ((Y.j0 : Int) + Y.m)
  g15 : get a 15 = .int .i64 Y.x0
  g16 : get a 16 = .int .i64 Y.y0
  g17 : get a 17 = .int .i64 Y.x1
  g18 : get a 18 = .int .i64 Y.y1

structure S6 (Y : Y6) (w : World) : Prop where
  a_ : (Y.aa = none ∧ Y.la = 0) ∨ Y.aa = some ⟨Y.ab, 0, none⟩
  b_ : (Y.ba = none ∧ Y.lb = 0) ∨ Y.ba = some ⟨Y.bb, 0, none⟩
  ia : In w Y.ab Y.la Y.A
  ib : In w Y.bb Y.lb Y.B
  la : Y.la ≤ 1024
  lb : Y.lb ≤ 1024
  n : Y.i0 + Y.n ≤ Y.la
  m : Y.j0 + Y.m ≤ Y.lb
  x : Y.x0 ≤ Y.x1
  xn : Y.x1 ≤ Y.n
  y : Y.y0 ≤ Y.y1
  ym : Y.y1 ≤ Y.m
  xy : Y.x1 - Y.x0 = Y.y1 - Y.y0

theorem S6.below {Y : Y6} {w w' : World} (h : S6 Y w) (hb : Below w.heap.size w w') : S6 Y w' :=
  ⟨h.a_, h.b_, h.ia.of_below hb, h.ib.of_below hb, h.la, h.lb, h.n, h.m, h.x, h.xn, h.y, h.ym, h.xy⟩
theorem S6.drewN {Y : Y6} {w : World} (h : S6 Y w) (q : Nat) : S6 Y (w.drewN q) :=
  h.below ⟨rfl, rfl, rfl, Nat.le_refl _, fun _ _ => rfl⟩

set_option maxHeartbeats 1000000 in
set_option maxRecDepth 100000 in
theorem m6_in {Y : Y6} {a : Act} {w : World} {k : Nat} {Q : Exit → Act → World → Prop} (hF : F6 Y a) (h21 : get a 21 = .int .i64 (k : Int)) (st : S6 Y w) (hk : k < Y.x1 - Y.x0) (heq : Y.A (Y.i0 + Y.x0 + k) = Y.B (Y.j0 + Y.y0 + k))
    (hQ : Hid (∀ a' w', F6 Y a' → get a' 21 = .int .i64 ((k : Int) + 1) → (∃ q, w' = w.drewN q) → Q .normal a' w')) :
    Code.wp Try.prog (sub2 [true, true, true, true, true, true, true, true, true, true, true, true, true, false, true, false, false] (bodyOf Try.f6)) Q a w := by
  conv => arg 2; whnf
  obtain ⟨hd, hs, g0, g1, g2, g3, g4, g5, g15, g16, g17, g18⟩ := hF
  have zla := st.la
  have zlb := st.lb
  have zn := st.n
  have zm := st.m
  have zx := st.x
  have zxn := st.xn
  have zy := st.y
  have zym := st.ym
  have zxy := st.xy
  have ST : Hid (S6 Y w) := st
  have ea : Y.aa = some ⟨Y.ab, 0, none⟩ := by rcases st.a_ with h | h; exact absurd h.2 (by omega); exact h
  have eb : Y.ba = some ⟨Y.bb, 0, none⟩ := by rcases st.b_ with h | h; exact absurd h.2 (by omega); exact h
  rw [ea] at g0
  rw [eb] at g1
  have cA := st.ia.cells (Y.i0 + Y.x0 + k) (by omega)
  have cB := st.ib.cells (Y.j0 + Y.y0 + k) (by omega)
  rw [← heq] at cB
  have hk2 : (k : Int) < (Y.x1 : Int) - Y.x0 := by omega
  have EA : Hid (Y.aa = some ⟨Y.ab, 0, none⟩) := ea
  have EB : Hid (Y.ba = some ⟨Y.bb, 0, none⟩) := eb
  clear ea eb st heq
  rw [lit6 a hd hs]
  generalize get a = g at *
  simp only [g0, g1, g2, g3, g4, g5, g15, g16, g17, g18, h21]
  clear hd hs g0 g1 g2 g3 g4 g5 g15 g16 g17 g18 h21
  generalize Y.A (Y.i0 + Y.x0 + k) = av at *
  go_wp2
  go_quiet (fail)
  go_wp2
  exact hQ.out _ _ ⟨rfl, rfl, by rw [EA.out]; rfl, by rw [EB.out]; rfl, rfl, rfl, rfl, rfl, rfl, rfl, rfl, rfl⟩ rfl ⟨_, rfl⟩
set_option maxHeartbeats 1000000 in
set_option maxRecDepth 100000 in
theorem m6_out {Y : Y6} {a : Act} {w : World} {k : Nat} {Q : Exit → Act → World → Prop} (hF : F6 Y a) (h21 : get a 21 = .int .i64 (k : Int)) (st : S6 Y w) (hk : Y.x1 - Y.x0 ≤ k)
    (hQ : Hid (∀ a', F6 Y a' → Q (.exit 0) a' w)) :
    Code.wp Try.prog (sub2 [true, true, true, true, true, true, true, true, true, true, true, true, true, false, true, false, false] (bodyOf Try.f6)) Q a w := by
  conv => arg 2; whnf
  obtain ⟨hd, hs, g0, g1, g2, g3, g4, g5, g15, g16, g17, g18⟩ := hF
  have zla := st.la
  have zlb := st.lb
  have zn := st.n
  have zm := st.m
  have zx := st.x
  have zxn := st.xn
  have zy := st.y
  have zym := st.ym
  have zxy := st.xy
  have ST : Hid (S6 Y w) := st
  have hk2 : (Y.x1 : Int) - Y.x0 ≤ (k : Int) := by omega
  clear st
  rw [lit6 a hd hs]
  generalize get a = g at *
  simp only [g0, g1, g2, g3, g4, g5, g15, g16, g17, g18, h21]
  clear hd hs g0 g1 g2 g3 g4 g5 g15 g16 g17 g18 h21
  go_wp2
  exact hQ.out _ ⟨rfl, rfl, rfl, rfl, rfl, rfl, rfl, rfl, rfl, rfl, rfl, rfl⟩

theorem wrap_ok (x : Int) (h0 : -9223372036854775808 ≤ x) (h1 : x ≤ 9223372036854775807) : IntKind.i64.wrap x = x := by
  simp [IntKind.wrap, IntKind.bits, IntKind.signed]; omega
/-- an ordinary end alone -/
@[reducible] def Nm (K : Act → World → Prop) : Exit → Act → World → Prop
  | .normal, a, w => K a w
  | _, _, _ => False
set_option maxHeartbeats 1000000 in
set_option maxRecDepth 100000 in
theorem q25 {Y : Y6} {a : Act} {w : World} {wh hd_ : Int} {Q : Exit → Act → World → Prop} (hF : F6 Y a)  (st : S6 Y w)
    (hQ : Hid (∀ a' w', F6 Y a' → get a' 22 = .int .i64 (My.d (fun i => Y.A (Y.i0 + i)) (fun i => Y.B (Y.j0 + i)) ((Y.n : Nat) : Int) ((Y.m : Nat) : Int)) → Below w.heap.size w w' → Q .normal a' w')) :
    Code.wp Try.prog (sub2 [true, true, true, true, true, true, true, true, true, true, true, true, true, true, false] (bodyOf Try.f6)) Q a w := by
  refine Code.wp_mono (Q := Nm (fun a' w' => F6 Y a' ∧ get a' 22 = .int .i64 (My.d (fun i => Y.A (Y.i0 + i)) (fun i => Y.B (Y.j0 + i)) ((Y.n : Nat) : Int) ((Y.m : Nat) : Int)) ∧ Below w.heap.size w w')) ?_ ?_
  · intro e a' w' h
    cases e
    case normal => obtain ⟨h1, h2, h3⟩ := h; exact hQ.out a' w' h1 h2 h3
    all_goals exact h.elim
  conv => arg 2; whnf
  obtain ⟨hd, hs, g0, g1, g2, g3, g4, g5, g15, g16, g17, g18⟩ := hF
  have zla := st.la
  have zlb := st.lb
  have zn := st.n
  have zm := st.m
  have zx := st.x
  have zxn := st.xn
  have zy := st.y
  have zym := st.ym
  have zxy := st.xy
  have ST : Hid (S6 Y w) := st
  have sA := st.a_
  have sB := st.b_
  clear st hQ
  have b1 : (Y.i0 : Int) ≤ ((Y.i0 : Int) + Y.n) := by omega
  have b2 : ((Y.i0 : Int) + Y.n) ≤ (Y.la : Int) := by omega
  have b3 : (Y.j0 : Int) ≤ ((Y.j0 : Int) + Y.m) := by omega
  have b4 : ((Y.j0 : Int) + Y.m) ≤ (Y.lb : Int) := by omega
  have E0 : ((Y.i0 : Int) + Y.n).toNat = (Y.i0 + Y.n) := by omega
  have E1 : ((Y.j0 : Int) + Y.m).toNat = (Y.j0 + Y.m) := by omega
  have WF : Hid (∀ aa ba ca cb, (0 < Y.n → aa = some ⟨Y.ab, Y.i0, none⟩) → (0 < Y.m → ba = some ⟨Y.bb, Y.j0, none⟩) → ∀ w', Below w.heap.size w w' →
      Calls Try.prog 22 #[.slice aa Y.n ca, .slice ba Y.m cb] w' fun e w'' => e = .returned (.int .i64 (My.d (fun i => Y.A (Y.i0 + i)) (fun i => Y.B (Y.j0 + i)) ((Y.n : Nat) : Int) ((Y.m : Nat) : Int))) ∧ Below w.heap.size w w'') := by
    intro aa ba ca cb h1 h2 w' hb
    have st := ST.out.below hb
    have rx : Rd w' aa Y.ab (Y.i0) (Y.n) (fun i => Y.A (Y.i0 + i)) := ⟨h1, fun h => st.ia.lt (by omega), fun i hi => st.ia.cells _ (by omega), by omega⟩
    have ry : Rd w' ba Y.bb (Y.j0) (Y.m) (fun i => Y.B (Y.j0 + i)) := ⟨h2, fun h => st.ib.lt (by omega), fun i hi => st.ib.cells _ (by omega), by omega⟩
    refine (dist_any { ax := aa, ay := ba, bx := Y.ab, ox := Y.i0, by_ := Y.bb, oy := Y.j0, lx := Y.n, cx := ca, ly := Y.m, cy := cb, B0 := w'.heap.size, f := fun i => Y.A (Y.i0 + i), g := fun i => Y.B (Y.j0 + i) } w' rx ry rfl).mono ?_
    rintro e w'' ⟨rfl, hb2⟩
    exact ⟨rfl, hb.trans (hb2.mono hb.size)⟩
  have AA : Hid (0 < Y.n → (if Y.la = Y.i0 then Y.aa else Y.aa.map (·.add (Y.i0))) = some ⟨Y.ab, Y.i0, none⟩) := by
    intro h
    rcases sA with ⟨h1, h2⟩ | h1
    · exact absurd h2 (by omega)
    · rw [if_neg (by omega), h1]; simp [Addr.add] <;> omega
  have BA : Hid (0 < Y.m → (if Y.lb = Y.j0 then Y.ba else Y.ba.map (·.add (Y.j0))) = some ⟨Y.bb, Y.j0, none⟩) := by
    intro h
    rcases sB with ⟨h1, h2⟩ | h1
    · exact absurd h2 (by omega)
    · rw [if_neg (by omega), h1]; simp [Addr.add] <;> omega
  rw [lit6 a hd hs]
  generalize get a = g at *
  simp only [g0, g1, g2, g3, g4, g5, g15, g16, g17, g18]
  clear hd hs g0 g1 g2 g3 g4 g5 g15 g16 g17 g18 sA sB
  generalize (My.d (fun i => Y.A (Y.i0 + i)) (fun i => Y.B (Y.j0 + i)) ((Y.n : Nat) : Int) ((Y.m : Nat) : Int)) = rr at *
  go_region_with (go_at_call 22; refine (WF.out _ _ _ _ AA.out BA.out _ ?_).mono ?_; exact ⟨rfl, rfl, rfl, Nat.le_refl _, fun _ _ => rfl⟩; rintro e w' ⟨rfl, hb⟩; generalize (if Y.la = Y.i0 then Y.aa else Option.map (fun x => x.add (Y.i0)) Y.aa) = za at *; generalize (if Y.lb = Y.j0 then Y.ba else Option.map (fun x => x.add (Y.j0)) Y.ba) = zb at *)
  exact ⟨⟨rfl, rfl, rfl, rfl, rfl, rfl, rfl, rfl, rfl, rfl, rfl, rfl⟩, rfl, hb⟩
set_option maxHeartbeats 1000000 in
set_option maxRecDepth 100000 in
theorem q26 {Y : Y6} {a : Act} {w : World} {wh hd_ : Int} {Q : Exit → Act → World → Prop} (hF : F6 Y a) (h22 : get a 22 = .int .i64 wh) (st : S6 Y w)
    (hQ : Hid (∀ a' w', F6 Y a' → get a' 22 = .int .i64 wh → get a' 23 = .int .i64 (My.d (fun i => Y.A (Y.i0 + i)) (fun i => Y.B (Y.j0 + i)) ((Y.x0 : Nat) : Int) ((Y.y0 : Nat) : Int)) → Below w.heap.size w w' → Q .normal a' w')) :
    Code.wp Try.prog (sub2 [true, true, true, true, true, true, true, true, true, true, true, true, true, true, true, false] (bodyOf Try.f6)) Q a w := by
  refine Code.wp_mono (Q := Nm (fun a' w' => F6 Y a' ∧ get a' 22 = .int .i64 wh ∧ get a' 23 = .int .i64 (My.d (fun i => Y.A (Y.i0 + i)) (fun i => Y.B (Y.j0 + i)) ((Y.x0 : Nat) : Int) ((Y.y0 : Nat) : Int)) ∧ Below w.heap.size w w')) ?_ ?_
  · intro e a' w' h
    cases e
    case normal => obtain ⟨h1, k22, h2, h3⟩ := h; exact hQ.out a' w' h1 k22 h2 h3
    all_goals exact h.elim
  conv => arg 2; whnf
  obtain ⟨hd, hs, g0, g1, g2, g3, g4, g5, g15, g16, g17, g18⟩ := hF
  have zla := st.la
  have zlb := st.lb
  have zn := st.n
  have zm := st.m
  have zx := st.x
  have zxn := st.xn
  have zy := st.y
  have zym := st.ym
  have zxy := st.xy
  have ST : Hid (S6 Y w) := st
  have sA := st.a_
  have sB := st.b_
  clear st hQ
  have b1 : (Y.i0 : Int) ≤ ((Y.i0 : Int) + Y.x0) := by omega
  have b2 : ((Y.i0 : Int) + Y.x0) ≤ (Y.la : Int) := by omega
  have b3 : (Y.j0 : Int) ≤ ((Y.j0 : Int) + Y.y0) := by omega
  have b4 : ((Y.j0 : Int) + Y.y0) ≤ (Y.lb : Int) := by omega
  have E0 : ((Y.i0 : Int) + Y.x0).toNat = (Y.i0 + Y.x0) := by omega
  have E1 : ((Y.j0 : Int) + Y.y0).toNat = (Y.j0 + Y.y0) := by omega
  have W0 : IntKind.i64.wrap ((Y.i0 : Int) + Y.x0) = ((Y.i0 : Int) + Y.x0) := wrap_ok _ (by omega) (by omega)
  have W1 : IntKind.i64.wrap ((Y.j0 : Int) + Y.y0) = ((Y.j0 : Int) + Y.y0) := wrap_ok _ (by omega) (by omega)
  have WF : Hid (∀ aa ba ca cb, (0 < Y.x0 → aa = some ⟨Y.ab, Y.i0, none⟩) → (0 < Y.y0 → ba = some ⟨Y.bb, Y.j0, none⟩) → ∀ w', Below w.heap.size w w' →
      Calls Try.prog 22 #[.slice aa Y.x0 ca, .slice ba Y.y0 cb] w' fun e w'' => e = .returned (.int .i64 (My.d (fun i => Y.A (Y.i0 + i)) (fun i => Y.B (Y.j0 + i)) ((Y.x0 : Nat) : Int) ((Y.y0 : Nat) : Int))) ∧ Below w.heap.size w w'') := by
    intro aa ba ca cb h1 h2 w' hb
    have st := ST.out.below hb
    have rx : Rd w' aa Y.ab (Y.i0) (Y.x0) (fun i => Y.A (Y.i0 + i)) := ⟨h1, fun h => st.ia.lt (by omega), fun i hi => st.ia.cells _ (by omega), by omega⟩
    have ry : Rd w' ba Y.bb (Y.j0) (Y.y0) (fun i => Y.B (Y.j0 + i)) := ⟨h2, fun h => st.ib.lt (by omega), fun i hi => st.ib.cells _ (by omega), by omega⟩
    refine (dist_any { ax := aa, ay := ba, bx := Y.ab, ox := Y.i0, by_ := Y.bb, oy := Y.j0, lx := Y.x0, cx := ca, ly := Y.y0, cy := cb, B0 := w'.heap.size, f := fun i => Y.A (Y.i0 + i), g := fun i => Y.B (Y.j0 + i) } w' rx ry rfl).mono ?_
    rintro e w'' ⟨rfl, hb2⟩
    exact ⟨rfl, hb.trans (hb2.mono hb.size)⟩
  have AA : Hid (0 < Y.x0 → (if Y.la = Y.i0 then Y.aa else Y.aa.map (·.add (Y.i0))) = some ⟨Y.ab, Y.i0, none⟩) := by
    intro h
    rcases sA with ⟨h1, h2⟩ | h1
    · exact absurd h2 (by omega)
    · rw [if_neg (by omega), h1]; simp [Addr.add] <;> omega
  have BA : Hid (0 < Y.y0 → (if Y.lb = Y.j0 then Y.ba else Y.ba.map (·.add (Y.j0))) = some ⟨Y.bb, Y.j0, none⟩) := by
    intro h
    rcases sB with ⟨h1, h2⟩ | h1
    · exact absurd h2 (by omega)
    · rw [if_neg (by omega), h1]; simp [Addr.add] <;> omega
  rw [lit6 a hd hs]
  generalize get a = g at *
  simp only [g0, g1, g2, g3, g4, g5, g15, g16, g17, g18, h22]
  clear hd hs g0 g1 g2 g3 g4 g5 g15 g16 g17 g18 h22 sA sB
  generalize (My.d (fun i => Y.A (Y.i0 + i)) (fun i => Y.B (Y.j0 + i)) ((Y.x0 : Nat) : Int) ((Y.y0 : Nat) : Int)) = rr at *
  go_region_with (go_at_call 22; refine (WF.out _ _ _ _ AA.out BA.out _ ?_).mono ?_; exact ⟨rfl, rfl, rfl, Nat.le_refl _, fun _ _ => rfl⟩; rintro e w' ⟨rfl, hb⟩; generalize (if Y.la = Y.i0 then Y.aa else Option.map (fun x => x.add (Y.i0)) Y.aa) = za at *; generalize (if Y.lb = Y.j0 then Y.ba else Option.map (fun x => x.add (Y.j0)) Y.ba) = zb at *)
  exact ⟨⟨rfl, rfl, rfl, rfl, rfl, rfl, rfl, rfl, rfl, rfl, rfl, rfl⟩, rfl, rfl, hb⟩
set_option maxHeartbeats 1000000 in
set_option maxRecDepth 100000 in
theorem q27 {Y : Y6} {a : Act} {w : World} {wh hd_ : Int} {Q : Exit → Act → World → Prop} (hF : F6 Y a) (h22 : get a 22 = .int .i64 wh) (h23 : get a 23 = .int .i64 hd_) (st : S6 Y w)
    (hQ : Hid (∀ a' w', F6 Y a' → get a' 22 = .int .i64 wh → get a' 23 = .int .i64 hd_ → get a' 24 = .int .i64 (My.d (fun i => Y.A (Y.i0 + Y.x1 + i)) (fun i => Y.B (Y.j0 + Y.y1 + i)) (((Y.n - Y.x1) : Nat) : Int) (((Y.m - Y.y1) : Nat) : Int)) → Below w.heap.size w w' → Q .normal a' w')) :
    Code.wp Try.prog (sub2 [true, true, true, true, true, true, true, true, true, true, true, true, true, true, true, true, false] (bodyOf Try.f6)) Q a w := by
  refine Code.wp_mono (Q := Nm (fun a' w' => F6 Y a' ∧ get a' 22 = .int .i64 wh ∧ get a' 23 = .int .i64 hd_ ∧ get a' 24 = .int .i64 (My.d (fun i => Y.A (Y.i0 + Y.x1 + i)) (fun i => Y.B (Y.j0 + Y.y1 + i)) (((Y.n - Y.x1) : Nat) : Int) (((Y.m - Y.y1) : Nat) : Int)) ∧ Below w.heap.size w w')) ?_ ?_
  · intro e a' w' h
    cases e
    case normal => obtain ⟨h1, k22, k23, h2, h3⟩ := h; exact hQ.out a' w' h1 k22 k23 h2 h3
    all_goals exact h.elim
  conv => arg 2; whnf
  obtain ⟨hd, hs, g0, g1, g2, g3, g4, g5, g15, g16, g17, g18⟩ := hF
  have zla := st.la
  have zlb := st.lb
  have zn := st.n
  have zm := st.m
  have zx := st.x
  have zxn := st.xn
  have zy := st.y
  have zym := st.ym
  have zxy := st.xy
  have ST : Hid (S6 Y w) := st
  have sA := st.a_
  have sB := st.b_
  clear st hQ
  have b1 : ((Y.i0 : Int) + Y.x1) ≤ ((Y.i0 : Int) + Y.n) := by omega
  have b2 : ((Y.i0 : Int) + Y.n) ≤ (Y.la : Int) := by omega
  have b3 : ((Y.j0 : Int) + Y.y1) ≤ ((Y.j0 : Int) + Y.m) := by omega
  have b4 : ((Y.j0 : Int) + Y.m) ≤ (Y.lb : Int) := by omega
  have E0 : ((Y.i0 : Int) + Y.n).toNat = (Y.i0 + Y.n) := by omega
  have E1 : ((Y.j0 : Int) + Y.m).toNat = (Y.j0 + Y.m) := by omega
  have E2 : ((Y.i0 : Int) + Y.x1).toNat = (Y.i0 + Y.x1) := by omega
  have E3 : ((Y.j0 : Int) + Y.y1).toNat = (Y.j0 + Y.y1) := by omega
  have W0 : IntKind.i64.wrap ((Y.i0 : Int) + Y.x1) = ((Y.i0 : Int) + Y.x1) := wrap_ok _ (by omega) (by omega)
  have W1 : IntKind.i64.wrap ((Y.j0 : Int) + Y.y1) = ((Y.j0 : Int) + Y.y1) := wrap_ok _ (by omega) (by omega)
  have c0 : 0 ≤ ((Y.i0 : Int) + Y.x1) := by omega
  have c1 : 0 ≤ ((Y.j0 : Int) + Y.y1) := by omega
  have WF : Hid (∀ aa ba ca cb, (0 < (Y.n - Y.x1) → aa = some ⟨Y.ab, Y.i0 + Y.x1, none⟩) → (0 < (Y.m - Y.y1) → ba = some ⟨Y.bb, Y.j0 + Y.y1, none⟩) → ∀ w', Below w.heap.size w w' →
      Calls Try.prog 22 #[.slice aa (Y.n - Y.x1) ca, .slice ba (Y.m - Y.y1) cb] w' fun e w'' => e = .returned (.int .i64 (My.d (fun i => Y.A (Y.i0 + Y.x1 + i)) (fun i => Y.B (Y.j0 + Y.y1 + i)) (((Y.n - Y.x1) : Nat) : Int) (((Y.m - Y.y1) : Nat) : Int))) ∧ Below w.heap.size w w'') := by
    intro aa ba ca cb h1 h2 w' hb
    have st := ST.out.below hb
    have rx : Rd w' aa Y.ab (Y.i0 + Y.x1) ((Y.n - Y.x1)) (fun i => Y.A (Y.i0 + Y.x1 + i)) := ⟨h1, fun h => st.ia.lt (by omega), fun i hi => st.ia.cells _ (by omega), by omega⟩
    have ry : Rd w' ba Y.bb (Y.j0 + Y.y1) ((Y.m - Y.y1)) (fun i => Y.B (Y.j0 + Y.y1 + i)) := ⟨h2, fun h => st.ib.lt (by omega), fun i hi => st.ib.cells _ (by omega), by omega⟩
    refine (dist_any { ax := aa, ay := ba, bx := Y.ab, ox := Y.i0 + Y.x1, by_ := Y.bb, oy := Y.j0 + Y.y1, lx := (Y.n - Y.x1), cx := ca, ly := (Y.m - Y.y1), cy := cb, B0 := w'.heap.size, f := fun i => Y.A (Y.i0 + Y.x1 + i), g := fun i => Y.B (Y.j0 + Y.y1 + i) } w' rx ry rfl).mono ?_
    rintro e w'' ⟨rfl, hb2⟩
    exact ⟨rfl, hb.trans (hb2.mono hb.size)⟩
  have AA : Hid (0 < (Y.n - Y.x1) → (if Y.la = Y.i0 + Y.x1 then Y.aa else Y.aa.map (·.add (Y.i0 + Y.x1))) = some ⟨Y.ab, Y.i0 + Y.x1, none⟩) := by
    intro h
    rcases sA with ⟨h1, h2⟩ | h1
    · exact absurd h2 (by omega)
    · rw [if_neg (by omega), h1]; simp [Addr.add] <;> omega
  have BA : Hid (0 < (Y.m - Y.y1) → (if Y.lb = Y.j0 + Y.y1 then Y.ba else Y.ba.map (·.add (Y.j0 + Y.y1))) = some ⟨Y.bb, Y.j0 + Y.y1, none⟩) := by
    intro h
    rcases sB with ⟨h1, h2⟩ | h1
    · exact absurd h2 (by omega)
    · rw [if_neg (by omega), h1]; simp [Addr.add] <;> omega
  rw [lit6 a hd hs]
  generalize get a = g at *
  simp only [g0, g1, g2, g3, g4, g5, g15, g16, g17, g18, h22, h23]
  clear hd hs g0 g1 g2 g3 g4 g5 g15 g16 g17 g18 h22 h23 sA sB
  generalize (My.d (fun i => Y.A (Y.i0 + Y.x1 + i)) (fun i => Y.B (Y.j0 + Y.y1 + i)) (((Y.n - Y.x1) : Nat) : Int) (((Y.m - Y.y1) : Nat) : Int)) = rr at *
  go_region_with (go_at_call 22; rw [show Y.i0 + Y.n - (Y.i0 + Y.x1) = Y.n - Y.x1 from Nat.add_sub_add_left .., show Y.j0 + Y.m - (Y.j0 + Y.y1) = Y.m - Y.y1 from Nat.add_sub_add_left ..]; refine (WF.out _ _ _ _ AA.out BA.out _ ?_).mono ?_; exact ⟨rfl, rfl, rfl, Nat.le_refl _, fun _ _ => rfl⟩; rintro e w' ⟨rfl, hb⟩; generalize (if Y.la = Y.i0 + Y.x1 then Y.aa else Option.map (fun x => x.add (Y.i0 + Y.x1)) Y.aa) = za at *; generalize (if Y.lb = Y.j0 + Y.y1 then Y.ba else Option.map (fun x => x.add (Y.j0 + Y.y1)) Y.ba) = zb at *)
  exact ⟨⟨rfl, rfl, rfl, rfl, rfl, rfl, rfl, rfl, rfl, rfl, rfl, rfl⟩, rfl, rfl, rfl, hb⟩
set_option maxHeartbeats 1000000 in
set_option maxRecDepth 100000 in
theorem q28 {Y : Y6} {a : Act} {w : World} {wh hd_ tl : Int} {Q : Exit → Act → World → Prop} (hF : F6 Y a) (h22 : get a 22 = .int .i64 wh) (h23 : get a 23 = .int .i64 hd_) (h24 : get a 24 = .int .i64 tl) (st : S6 Y w) (e1 : hd_ + tl = wh) (e2 : hd_ = (wh + 1) / 2) (b0 : 0 ≤ wh) (b1 : wh ≤ 4096) (b2 : 0 ≤ hd_) (b3 : 0 ≤ tl)
    (hQ : Hid (∀ a', a'.defers = [] → get a' 12 = .bool true → Q .ret a' w)) :
    Code.wp Try.prog (sub2 [true, true, true, true, true, true, true, true, true, true, true, true, true, true, true, true, true] (bodyOf Try.f6)) Q a w := by
  conv => arg 2; whnf
  obtain ⟨hd, hs, g0, g1, g2, g3, g4, g5, g15, g16, g17, g18⟩ := hF
  clear st
  rw [lit6 a hd hs]
  generalize get a = g at *
  simp only [g0, g1, g2, g3, g4, g5, g15, g16, g17, g18, h22, h23, h24]
  clear hd hs g0 g1 g2 g3 g4 g5 g15 g16 g17 g18 h22 h23 h24
  have e3 : Int.tdiv (wh + 1) 2 = (wh + 1) / 2 := Int.tdiv_eq_ediv_of_nonneg (by omega)
  have e4 : Int.tdiv (wh + 1) 2 = hd_ := by omega
  have e5 : (hd_ + tl == wh) = true := by simp; omega
  go_wp2

  exact hQ.out _ rfl rfl
set_option maxHeartbeats 1000000 in
set_option maxRecDepth 100000 in
theorem m6_rounds {Y : Y6} {Q : Exit → Act → World → Prop} (heq : ∀ k, k < Y.x1 - Y.x0 → Y.A (Y.i0 + Y.x0 + k) = Y.B (Y.j0 + Y.y0 + k)) (f : Nat) : ∀ (a : Act) (w : World) (k : Nat), F6 Y a → get a 21 = .int .i64 (k : Int) → S6 Y w → k + f = Y.x1 - Y.x0 →
    (∀ a' w', F6 Y a' → Below w.heap.size w w' → Q (.exit 0) a' w') →
    Code.rounds Try.prog (sub2 [true, true, true, true, true, true, true, true, true, true, true, true, true, false, true, false, false] (bodyOf Try.f6)) Q (f + 1) a w := by
  induction f with
  | zero =>
    intro a w k hF h21 st hk hQ
    rw [rounds_succ]
    refine m6_out (k := k) hF h21 st (by omega) ?_
    intro a' hF'
    exact hQ a' w hF' (Below.refl _ _)
  | succ f ih =>
    intro a w k hF h21 st hk hQ
    rw [rounds_succ]
    refine m6_in (k := k) hF h21 st (by omega) (heq k (by omega)) ?_
    rintro a' w' hF' h21' ⟨q, rfl⟩
    have hb : Below w.heap.size w (w.drewN q) := ⟨rfl, rfl, rfl, Nat.le_refl _, fun _ _ => rfl⟩
    refine ih a' _ (k + 1) hF' (by rw [h21']; rfl) (st.below hb) (by omega) ?_
    intro a2 w2 hF2 hb2
    exact hQ a2 w2 hF2 (hb.trans (hb2.mono hb.size))
end Go.Proofs.Qxb6601687a
