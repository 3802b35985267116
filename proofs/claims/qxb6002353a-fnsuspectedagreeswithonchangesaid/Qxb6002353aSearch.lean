/-
  SEAT b6002353a: the two binary searches.
-/
import Derived.Test.Qxb6002353aMsgs
import Derived.Lib.Bytealg
namespace Go.Proofs.Qxb6002353a
open Go.RowKit
set_option linter.unusedVariables false
set_option linter.unusedSimpArgs false

def cmpz (a b : ByteArray) : Int := Lib.compareBytes a.data.toList b.data.toList
theorem run86 (a b : ByteArray) (w : World) : (callFunc 86 #[.string a, .string b]).run Try.prog w = .ok (.value (.int .i64 (cmpz a b))) w := by
  rw [run_callFunc_extern Try.func86 (by kernel_rfl) (by kernel_rfl) (by kernel_rfl) (e := Extern.BytealgCompare.compare) (by kernel_rfl), Lib.run_compareString]
  rfl
set_option maxHeartbeats 1000000 in
theorem c74 (a b : ByteArray) (w : World) : Calls Try.prog 74 #[.string a, .string b] w fun e w' => e = .returned (.int .i64 (cmpz a b)) ∧ w' = w := by
  have h := run86 a b w
  go_enter Try.func74, Try.ntmps74
  go_wp2_with (simp only [h])
  go_ret
  exact ⟨rfl, rfl⟩
set_option maxHeartbeats 1000000 in
theorem c54 (a b : ByteArray) (w : World) : Calls Try.prog 54 #[.string a, .string b] w fun e w' => e = .returned (.int .i64 (cmpz a b)) ∧ w' = w := by
  have C := hid (c74 a b w)
  go_enter Try.func54, Try.ntmps54
  go_wp2_with fail
  refine C.out.mono ?_
  rintro e w' ⟨rfl, rfl⟩
  go_wp2_with fail
  go_ret
  exact ⟨rfl, rfl⟩
set_option maxHeartbeats 1000000 in
theorem c53 {p : Nat} {a : ByteArray} (b : ByteArray) {w : World} (h : w.cell? ⟨p, 0, none⟩ = some (.string a)) : Calls Try.prog 53 #[.pointer (some ⟨p, 0, none⟩), .string b] w fun e w' => e = .returned (.int .i64 (cmpz a b)) ∧ w' = w := by
  have C := hid (c54 a b w)
  go_enter Try.func53, Try.ntmps53
  go_wp2_with fail
  refine C.out.mono ?_
  rintro e w' ⟨rfl, rfl⟩
  go_wp2_with fail
  go_ret
  exact ⟨rfl, rfl⟩
set_option maxHeartbeats 4000000 in
set_option maxRecDepth 100000 in
theorem c52 {rb n c : Nat} {s : ByteArray} {w : World} (hn : n ≤ 5) (hnc : n ≤ c) (CELL : ∀ i, i < n → ∃ p t, w.cell? ⟨rb, i, none⟩ = some (.pointer (some ⟨p, 0, none⟩)) ∧ w.cell? ⟨p, 0, none⟩ = some (.string t)) :
    Calls Try.prog 52 #[.slice (some ⟨rb, 0, none⟩) n c, .string s, .func (.func 53) #[] #[]] w fun e w' => ∃ (i : Nat) (f : Bool), e = .returned (.tuple #[.int .i64 i, .bool f]) ∧ i ≤ n ∧ w = w' := by
  have CE := hid CELL
  clear CELL
  go_enter Try.func52, Try.ntmps52
  go_wp2_with fail
  go_loopg [9, 10] n (fun k i j wr => w = wr ∧ ∃ (a b : Nat), a ≤ b ∧ b ≤ n ∧ b - a ≤ k ∧ i = .int .i64 a ∧ j = .int .i64 b)
  case atStart => exact ⟨rfl, 0, n, by omega, by omega, by omega, rfl, rfl⟩
  case round =>
    obtain ⟨rfl, a, b, hab, hbn, hk, rfl, rfl⟩ := hrel
    by_cases hlt : a < b
    · have hlt' : (a : Int) < (b : Int) := by omega
      obtain ⟨p, t, h1, h2⟩ := CE.out ((a + b) / 2) (by omega)
      have C := hid (c53 s h2)
      go_wp2_with fail
      refine C.out.mono ?_
      rintro e w' ⟨rfl, rfl⟩
      clear C h1 h2
      by_cases hz : cmpz t s < 0
      · have hz' : decide (cmpz t s < 0) = true := by simpa using hz
        go_wp2_with fail
        go_roundg (gk - 1)
        case measure => omega
        case rel => exact ⟨rfl, (a + b) / 2 + 1, b, by omega, by omega, by omega, by simp, rfl⟩
      · have hz' : decide (cmpz t s < 0) = false := by simpa using hz
        go_wp2_with fail
        go_roundg (gk - 1)
        case measure => omega
        case rel => exact ⟨rfl, a, (a + b) / 2, by omega, by omega, by omega, rfl, by simp⟩
    · have hge : (b : Int) ≤ (a : Int) := by omega
      by_cases han : a < n
      · have han' : (a : Int) < (n : Int) := by omega
        obtain ⟨p, t, h1, h2⟩ := CE.out a (by omega)
        have C := hid (c53 s h2)
        go_wp2_with fail
        refine C.out.mono ?_
        rintro e w' ⟨rfl, rfl⟩
        go_wp2_with fail
        go_ret2
        exact ⟨a, _, rfl, by omega, rfl⟩
      · have han' : (n : Int) ≤ (a : Int) := by omega
        go_wp2_with fail
        go_ret2
        exact ⟨a, _, rfl, by omega, rfl⟩

set_option maxHeartbeats 4000000 in
set_option maxRecDepth 100000 in
theorem c57 (s : ByteArray) (w : World) : Calls Try.prog 57 #[.string s] w fun e w' => e = .returned (.bool false) ∧ w' = w := by
  have t := tl_self s
  go_enter Try.func57, Try.ntmps57
  go_wp2_with fail
  go_ret
  exact ⟨by simp, rfl⟩

set_option maxHeartbeats 4000000 in
set_option maxRecDepth 100000 in
theorem c39 {ad : Option Addr} {n c : Nat} {s : ByteArray} {w : World} (hn : n ≤ 5) (CELL : 0 < n → ∃ rb, ad = some ⟨rb, 0, none⟩ ∧ ∀ i, i < n → ∃ t, w.cell? ⟨rb, i, none⟩ = some (.string t)) :
    Calls Try.prog 39 #[.slice ad n c, .string s] w fun e w' => ∃ (i : Nat) (f : Bool), e = .returned (.tuple #[.int .i64 i, .bool f]) ∧ (f = true → i < n) ∧ w = w' := by
  have CE := hid CELL
  clear CELL
  have C56 := fun a => hid (c56 a s w)
  have C57 := fun a => hid (c57 a w)
  go_enter Try.func39, Try.ntmps39
  go_wp2_with fail
  go_loopg [7, 8] n (fun k i j wr => w = wr ∧ ∃ (a b : Nat), a ≤ b ∧ b ≤ n ∧ b - a ≤ k ∧ i = .int .i64 a ∧ j = .int .i64 b)
  case atStart => exact ⟨rfl, 0, n, by omega, by omega, by omega, rfl, rfl⟩
  case round =>
    obtain ⟨rfl, a, b, hab, hbn, hk, rfl, rfl⟩ := hrel
    by_cases hlt : a < b
    · have hlt' : (a : Int) < (b : Int) := by omega
      obtain ⟨rb, rfl, ce⟩ := CE.out (by omega)
      obtain ⟨t, h1⟩ := ce ((a + b) / 2) (by omega)
      have CC := hid ce
      clear ce
      go_wp2_with fail
      refine (C56 _).out.mono ?_
      rintro e w' ⟨rfl, rfl⟩
      cases hz : Op.bytesLess t.toList s.toList
      · clear hz h1
        go_wp2_with fail
        go_roundg (gk - 1)
        case measure => omega
        case rel => exact ⟨rfl, a, (a + b) / 2, by omega, by omega, by omega, rfl, by simp⟩
      · clear hz h1
        go_wp2_with fail
        go_roundg (gk - 1)
        case measure => omega
        case rel => exact ⟨rfl, (a + b) / 2 + 1, b, by omega, by omega, by omega, by simp, rfl⟩
    · have hge : (b : Int) ≤ (a : Int) := by omega
      by_cases han : a < n
      · have han' : (a : Int) < (n : Int) := by omega
        obtain ⟨rb, rfl, ce⟩ := CE.out (by omega)
        obtain ⟨t, h1⟩ := ce a (by omega)
        have CC := hid ce
        clear ce
        go_wp2_with fail
        all_goals
          first
            | (refine (C57 _).out.mono ?_
               rintro e w' ⟨rfl, rfl⟩
               go_wp2_with fail
               go_ret2
               exact ⟨a, _, rfl, fun _ => by omega, rfl⟩)
            | (go_ret2
               exact ⟨a, _, rfl, fun _ => by omega, rfl⟩)
      · have han' : (n : Int) ≤ (a : Int) := by omega
        go_wp2_with fail
        go_ret2
        exact ⟨a, _, rfl, (fun h => by cases h), rfl⟩
end Go.Proofs.Qxb6002353a
