/-
  SEAT b6002353a: the library's sort at no more than five names.
-/
import Derived.Test.Qxb6002353aEasy
import Derived.Test.Qxb6002353aOnC
namespace Go.Proofs.Qxb6002353a
open Go.RowKit
set_option linter.unusedVariables false
set_option linter.unusedSimpArgs false

/-! ### plain -/
def swp (l : List Nat) (j : Nat) : List Nat := (l.set (j + 1) (l.getD j 0)).set j (l.getD (j + 1) 0)
def inner : Nat → List Nat → List Nat
  | 0, l => l
  | j + 1, l => if l.getD (j + 1) 0 < l.getD j 0 then inner j (swp l j) else l
def outer : Nat → Nat → List Nat → List Nat
  | 0, _, l => l
  | k + 1, i, l => outer k (i + 1) (inner i l)
def isort (l : List Nat) : List Nat := outer (l.length - 1) 1 l
theorem swp_len (l : List Nat) (j : Nat) : (swp l j).length = l.length := by simp [swp]
theorem inner_len (j : Nat) : ∀ l, (inner j l).length = l.length := by
  induction j with
  | zero => intro l; rfl
  | succ j ih => intro l; unfold inner; split; rw [ih, swp_len]; rfl
def lists : Nat → List (List Nat)
  | 0 => [[]]
  | n + 1 => (lists n).flatMap fun l => (List.range 5).map fun a => a :: l
theorem mem_lists (n : Nat) : ∀ l : List Nat, l.length = n → (∀ a ∈ l, a < 5) → l ∈ lists n := by
  induction n with
  | zero => intro l h _; simp at h; subst h; simp [lists]
  | succ n ih =>
    intro l h ha
    cases l with
    | nil => simp at h
    | cons a l =>
      simp only [lists, List.mem_flatMap]
      exact ⟨l, ih l (by simpa using h) (fun b hb => ha b (by simp [hb])), List.mem_map.2 ⟨a, by simpa using ha a (by simp), rfl⟩⟩
def goodB (l : List Nat) : Bool := !decide l.Nodup || (decide ((isort l).Pairwise (· < ·)) && decide ((isort l).length = l.length) && (isort l).all (fun a => l.contains a) && l.all (fun a => (isort l).contains a))
theorem all_good : ((List.range 6).all fun n => (lists n).all goodB) = true := by decide +kernel
theorem isort_ok (l : List Nat) (h5 : l.length ≤ 5) (ha : ∀ a ∈ l, a < 5) (hn : l.Nodup) : (isort l).Pairwise (· < ·) ∧ (isort l).length = l.length ∧ ∀ a, a ∈ isort l ↔ a ∈ l := by
  have h := all_good
  rw [List.all_eq_true] at h
  have h1 := h l.length (by simp; omega)
  rw [List.all_eq_true] at h1
  have h2 := h1 l (mem_lists _ l rfl ha)
  simp only [goodB, hn, decide_true, Bool.not_true, Bool.false_or, Bool.and_eq_true, decide_eq_true_eq, List.all_eq_true, List.contains_iff_mem] at h2
  exact ⟨h2.1.1.1, h2.1.1.2, fun a => ⟨fun h => h2.1.2 a h, fun h => h2.2 a h⟩⟩

/-! ### the walks -/
set_option maxHeartbeats 1000000 in
theorem c77 (s : ByteArray) (w : World) : Calls Try.prog 77 #[.string s] w fun e w' => e = .returned (.bool false) ∧ w' = w := by
  have t := tl_self s
  go_enter Try.func77, Try.ntmps77
  go_wp2_with fail
  go_ret
  exact ⟨by simp, rfl⟩
set_option maxHeartbeats 1000000 in
theorem c56 (a b : ByteArray) (w : World) : Calls Try.prog 56 #[.string a, .string b] w fun e w' => e = .returned (.bool (Op.bytesLess a.toList b.toList)) ∧ w' = w := by
  have C := hid (c77 a w)
  go_enter Try.func56, Try.ntmps56
  go_wp2_with fail
  refine C.out.mono ?_
  rintro e w' ⟨rfl, rfl⟩
  go_wp2_with fail
  go_ret
  exact ⟨rfl, rfl⟩

/-- a row of names is turned, nothing else -/
structure SortW (g : Nat) (w w' : World) (arr : Array Value) : Prop where
  os : w'.os = w.os
  tape : w'.tape = w.tape
  output : w'.output = w.output
  size : w'.heap.size = w.heap.size
  other : ∀ b, b ≠ g → w'.heap[b]? = w.heap[b]?
  at_ : w'.heap[g]? = some (.cells arr 9 (0, 0))
theorem SortW.drewN {g w w' arr} (h : SortW g w w' arr) (q : Nat) : SortW g w (w'.drewN q) arr := ⟨h.os, h.tape, h.output, h.size, h.other, h.at_⟩
theorem SortW.drew {g w w' arr} (h : SortW g w w' arr) : SortW g w w'.drew arr := ⟨h.os, h.tape, h.output, h.size, h.other, h.at_⟩
theorem SortW.set {g w w' arr} (h : SortW g w w' arr) (i : Nat) (v : Value) : SortW g w (w'.setCell ⟨g, i, none⟩ v) (arr.setIfInBounds i v) :=
  ⟨h.os, h.tape, h.output, by rw [← h.size]; simp [World.setCell], fun b hb => by rw [setCell_other hb]; exact h.other b hb, setCell_at h.at_⟩
/-- the row's first cells are the names l -/
def Names (arr : Array Value) (l : List Nat) : Prop := ∀ i, i < l.length → arr[i]? = some (.string (nm (l.getD i 0)))

theorem getD_lt {l : List Nat} (h : ∀ a ∈ l, a < 5) (i : Nat) : l.getD i 0 < 5 := by
  rw [List.getD_eq_getElem?_getD]
  cases hi : l[i]? with
  | none => simp
  | some a => exact h a (List.mem_of_getElem? hi)
theorem swp_lt {l : List Nat} (h : ∀ a ∈ l, a < 5) (j : Nat) : ∀ a ∈ swp l j, a < 5 := by
  intro a ha
  unfold swp at ha
  rcases List.mem_or_eq_of_mem_set ha with ha | rfl
  · rcases List.mem_or_eq_of_mem_set ha with ha | rfl
    · exact h a ha
    · exact getD_lt h _
  · exact getD_lt h _
theorem inner_lt (j : Nat) : ∀ {l : List Nat}, (∀ a ∈ l, a < 5) → ∀ a ∈ inner j l, a < 5 := by
  induction j with
  | zero => intro l h; exact h
  | succ j ih => intro l h; unfold inner; split; exact ih (swp_lt h j); exact h
theorem Names.swp {arr : Array Value} {l : List Nat} (h : Names arr l) (j : Nat) (hj : j + 1 < l.length) (hs : l.length ≤ arr.size) : Names ((arr.setIfInBounds (j + 1) (.string (nm (l.getD j 0)))).setIfInBounds j (.string (nm (l.getD (j + 1) 0)))) (swp l j) := by
  intro i hi
  rw [swp_len] at hi
  unfold Qxb6002353a.swp
  by_cases h1 : i = j
  · subst h1
    rw [Array.getElem?_setIfInBounds_self_of_lt (by simp; omega)]
    simp [List.getElem?_set, hi, hj]
  · rw [Array.getElem?_setIfInBounds_ne (by omega)]
    by_cases h2 : i = j + 1
    · subst h2
      rw [Array.getElem?_setIfInBounds_self_of_lt (by omega)]
      simp [List.getElem?_set, hj]
    · rw [Array.getElem?_setIfInBounds_ne (by omega), h i hi]
      simp [List.getElem?_set, show ¬ j = i by omega, show ¬ j + 1 = i by omega]

set_option maxHeartbeats 4000000 in
set_option maxRecDepth 100000 in
theorem c58 (g c : Nat) (l : List Nat) (arr : Array Value) (w : World) (hn : l.length ≤ 5) (ha : ∀ a ∈ l, a < 5) (hg : w.heap[g]? = some (.cells arr 9 (0, 0))) (hsz : l.length ≤ arr.size) (hnm : Names arr l) :
    Calls Try.prog 58 #[.slice (some ⟨g, 0, none⟩) l.length c, .int .i64 0, .int .i64 l.length] w fun e w' => e = .returned (.tuple #[]) ∧ ∃ arr', SortW g w w' arr' ∧ arr'.size = arr.size ∧ Names arr' (isort l) := by
  have W0 := hid (show SortW g w w arr from ⟨rfl, rfl, rfl, rfl, fun _ _ => rfl, hg⟩)
  have HS := hid hsz
  have HN := hid hnm
  have HA := hid ha
  have hN : ∃ n, n = l.length := ⟨_, rfl⟩
  obtain ⟨n, hN⟩ := hN
  rw [← hN] at hn hsz ⊢
  have HL := hid hN
  clear hN hsz hnm ha hg
  go_enter Try.func58, Try.ntmps58
  go_wp2_with fail
  go_loopg [6] n (fun k a wr => ∃ (i : Nat) (cur : List Nat) (ar : Array Value), i + k = n + 1 ∧ 1 ≤ i ∧ a = .int .i64 i ∧ SortW g w wr ar ∧ ar.size = arr.size ∧ Names ar cur ∧ cur.length = n ∧ (∀ a ∈ cur, a < 5) ∧ outer (n - i) i cur = isort l)
  case atStart =>
    refine ⟨1, l, arr, by omega, by omega, rfl, W0.out, rfl, HN.out, HL.out.symm, HA.out, ?_⟩
    unfold isort; rw [HL.out]
  case round =>
    obtain ⟨i, cur, ar, h1, h2, rfl, h3, h4, h5, h6, h7, h8⟩ := hrel
    have H1 := hid h1
    have H2 := hid h2
    by_cases hlt : i < n
    · have hlt' : (i : Int) < (n : Int) := by omega
      have H8 := hid h8
      have X := hid (And.intro h3 (And.intro h4 (And.intro h5 (And.intro h6 h7))))
      clear h1 h2 h3 h4 h5 h6 h7 h8
      go_wp2_with fail
      go_loopg [7] i (fun k a wq => ∃ (j : Nat) (cu : List Nat) (ar2 : Array Value), k = j ∧ j ≤ i ∧ a = .int .i64 j ∧ SortW g w wq ar2 ∧ ar2.size = arr.size ∧ Names ar2 cu ∧ cu.length = n ∧ (∀ a ∈ cu, a < 5) ∧ inner j cu = inner i cur)
      case atStart => obtain ⟨x1, x2, x3, x4, x5⟩ := X.out; exact ⟨i, cur, ar, rfl, Nat.le_refl _, rfl, x1, x2, x3, x4, x5, rfl⟩
      case round =>
        obtain ⟨j, cu, ar2, hk, k1, rfl, k2, k3, k4, k5, k6, k7⟩ := hrel
        have Y := hid (And.intro k2 (And.intro k3 (And.intro k4 (And.intro k5 k6))))
        have K7 := hid k7
        have K1 := hid k1
        have HK := hid hk
        have gz := fz_of k2.at_
        have C56 : Hid (∀ a b W, Calls Try.prog 56 #[.string a, .string b] W fun e w' => e = .returned (.bool (Op.bytesLess a.toList b.toList)) ∧ w' = W) := c56
        cases j with
        | zero =>
          clear k2 k3 k4 k5 k6 k7 k1 hk
          go_wp2_with fail
          go_quiet (first | (go_at_call 56; exact Calls.quiet_of_same (C56.out _ _ _)))
          go_wp2_with fail
          go_roundg (n - i)
          case measure => have := H1.out; omega
          case rel =>
            obtain ⟨y1, y2, y3, y4, y5⟩ := Y.out
            have e : cu = inner i cur := K7.out
            refine ⟨i + 1, cu, ar2, by omega, by omega, rfl, y1.drewN _, y2, y3, y4, y5, ?_⟩
            rw [← H8.out, show n - i = (n - (i + 1)) + 1 by omega, e]
            rfl
        | succ j =>
          have hj1 : j + 1 < n := by omega
          have g1 : wr.cell? ⟨g, j + 1, none⟩ = some (.string (nm (cu.getD (j + 1) 0))) := by rw [cell_of k2.at_]; exact k4 _ (by omega)
          have g0 : wr.cell? ⟨g, j, none⟩ = some (.string (nm (cu.getD j 0))) := by rw [cell_of k2.at_]; exact k4 _ (by omega)
          have hL := less_nm (getD_lt k6 (j + 1)) (getD_lt k6 j)
          have b0 : (0 : Int) < ((j : Int) + 1) := by omega
          have b1 : ((j : Int) + 1) < (n : Int) := by omega
          have b2 : (j : Int) < (n : Int) := by omega
          have b3 : ((j : Int) + 1 - 1) = (j : Int) := by omega
          have b4 : ((j : Int) + 1).toNat = j + 1 := by omega
          have hsz := HS.out
          have HJ := hid hj1
          clear k2 k3 k4 k5 k6 k7 k1 hk
          by_cases hab : cu.getD (j + 1) 0 < cu.getD j 0
          · have HAB := hid hab
            rw [decide_eq_true hab] at hL
            clear hab
            generalize hA : nm (cu.getD (j + 1) 0) = sa at *
            generalize hB : nm (cu.getD j 0) = sb at *
            have EA := hid hA
            have EB := hid hB
            clear hA hB
            go_wp2_with fail
            go_quiet (first | (go_at_call 56; exact Calls.quiet_of_same (C56.out _ _ _)))
            go_wp2_with fail
            go_region
            all_goals
              go_wp2_with fail
              go_roundg j
              case measure => have := HK.out; omega
              case rel =>
                obtain ⟨y1, y2, y3, y4, y5⟩ := Y.out
                have e := K7.out
                have hj1 := HJ.out
                have hl := HL.out
                refine ⟨j, swp cu j, _, rfl, by have := K1.out; omega, rfl, ((y1.drewN _).set (j + 1) _).set j _, by simp [y2], ?_, by rw [swp_len]; exact y4, swp_lt y5 j, ?_⟩
                · rw [← EA.out, ← EB.out]
                  exact y3.swp j (by omega) (by omega)
                · rw [← e]
                  show inner j (swp cu j) = inner (j + 1) cu
                  conv => rhs; unfold inner
                  rw [if_pos HAB.out]
          · have HAB := hid hab
            rw [decide_eq_false hab] at hL
            clear hab
            generalize hA : nm (cu.getD (j + 1) 0) = sa at *
            generalize hB : nm (cu.getD j 0) = sb at *
            clear hA hB
            go_wp2_with fail
            go_quiet (first | (go_at_call 56; exact Calls.quiet_of_same (C56.out _ _ _)))
            go_wp2_with fail
            go_roundg (n - i)
            case measure => have := H1.out; omega
            case rel =>
              obtain ⟨y1, y2, y3, y4, y5⟩ := Y.out
              have e : cu = inner i cur := by rw [← K7.out]; unfold inner; rw [if_neg HAB.out]
              refine ⟨i + 1, cu, ar2, by omega, by omega, rfl, y1.drewN _, y2, y3, y4, y5, ?_⟩
              rw [← H8.out, show n - i = (n - (i + 1)) + 1 by omega, e]
              rfl
    · have hge : (n : Int) ≤ (i : Int) := by omega
      have H8 := hid h8
      have X := hid (And.intro h3 (And.intro h4 h5))
      clear h1 h2 h3 h4 h5 h6 h7 h8
      go_wp2_with fail
      go_end0
      obtain ⟨x1, x2, x3⟩ := X.out
      have e := H8.out
      rw [show n - i = 0 by omega] at e
      unfold outer at e
      rw [e] at x3
      exact ⟨rfl, ar, x1, x2, x3⟩

set_option maxHeartbeats 4000000 in
set_option maxRecDepth 100000 in
theorem c58_0 (ad : Option Addr) (c : Nat) (w : World) : Calls Try.prog 58 #[.slice ad 0 c, .int .i64 0, .int .i64 0] w fun e w' => e = .returned (.tuple #[]) ∧ w' = w := by
  go_enter Try.func58, Try.ntmps58
  go_wp2_with fail
  go_loopg [6] 0 (fun k a wr => w = wr ∧ a = .int .i64 1)
  case atStart => exact ⟨rfl, rfl⟩
  case round =>
    obtain ⟨rfl, rfl⟩ := hrel
    go_wp2_with fail
    go_end0
    exact ⟨rfl, rfl⟩
set_option maxHeartbeats 4000000 in
set_option maxRecDepth 100000 in
theorem c41 {ad : Option Addr} {n c : Nat} {z : Int} {w : World} {R : Ending → World → Prop} (hn : n ≤ 5) (C : ∀ W, w = W → Calls Try.prog 58 #[.slice ad n c, .int .i64 0, .int .i64 n] W fun e w' => e = .returned (.tuple #[]) ∧ R e w') :
    Calls Try.prog 41 #[.slice ad n c, .int .i64 0, .int .i64 n, .int .i64 z] w fun e w' => e = .returned (.tuple #[]) ∧ R e w' := by
  have CC := hid (C w rfl)
  clear C
  have h12 : (n : Int) ≤ 12 := by omega
  go_enter Try.func41, Try.ntmps41
  go_wp2_with fail
  go_loopg [1, 2] 0 (fun k a b wr => w = wr ∧ a = .int .i64 0 ∧ b = .int .i64 n)
  case atStart => exact ⟨rfl, rfl, rfl⟩
  case round =>
    obtain ⟨rfl, rfl, rfl⟩ := hrel
    go_wp2_with fail
    refine CC.out.mono ?_
    rintro e w' ⟨rfl, h⟩
    have H := hid h
    clear h
    go_wp2_with fail
    refine bodyPost_ret (results_none rfl _ _ _) rfl ?_
    exact ⟨rfl, H.out⟩

set_option maxHeartbeats 4000000 in
set_option maxRecDepth 100000 in
theorem c67 (n : Nat) (hn : n ≤ 5) (w : World) : Calls Try.prog 67 #[.int .u64 n] w fun e w' => ∃ z, e = .returned (.int .i64 z) ∧ w' = w := by
  have : n = 0 ∨ n = 1 ∨ n = 2 ∨ n = 3 ∨ n = 4 ∨ n = 5 := by omega
  rcases this with rfl | rfl | rfl | rfl | rfl | rfl
  all_goals
    go_enter Try.func67, Try.ntmps67
    go_wp2_with fail
    go_ret
    exact ⟨_, rfl, rfl⟩

set_option maxHeartbeats 4000000 in
set_option maxRecDepth 100000 in
theorem c42 (n : Nat) (hn : n ≤ 5) (w : World) : Calls Try.prog 42 #[.int .u64 n] w fun e w' => ∃ z, e = .returned (.int .i64 z) ∧ w' = w := by
  have C := hid (c67 n hn w)
  go_enter Try.func42, Try.ntmps42
  go_wp2_with fail
  refine C.out.mono ?_
  rintro e w' ⟨z, rfl, rfl⟩
  go_wp2_with fail
  go_ret
  exact ⟨_, rfl, rfl⟩
set_option maxHeartbeats 4000000 in
set_option maxRecDepth 100000 in
theorem c27 {ad : Option Addr} {n c : Nat} {w : World} {R : Ending → World → Prop} (hn : n ≤ 5) (C : ∀ W, w = W → Calls Try.prog 58 #[.slice ad n c, .int .i64 0, .int .i64 n] W fun e w' => e = .returned (.tuple #[]) ∧ R e w') :
    Calls Try.prog 27 #[.slice ad n c] w fun e w' => e = .returned (.tuple #[]) ∧ R e w' := by
  have C42 := hid (c42 n hn w)
  have C41 : Hid (∀ z, Calls Try.prog 41 #[.slice ad n c, .int .i64 0, .int .i64 n, .int .i64 z] w fun e w' => e = .returned (.tuple #[]) ∧ R e w') := fun z => c41 hn C
  clear C
  have hw : IntKind.u64.wrap (n : Int) = (n : Int) := by simp [IntKind.wrap, IntKind.bits, IntKind.signed]; omega
  go_enter Try.func27, Try.ntmps27
  go_wp2_with fail
  refine C42.out.mono ?_
  rintro e w' ⟨z, rfl, rfl⟩
  go_wp2_with fail
  refine (C41.out _).mono ?_
  rintro e w' ⟨rfl, h⟩
  have H := hid h
  clear h
  go_wp2_with fail
  go_end0
  exact ⟨rfl, H.out⟩
end Go.Proofs.Qxb6002353a
