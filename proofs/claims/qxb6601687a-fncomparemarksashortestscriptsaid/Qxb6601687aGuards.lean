/-
  SMALL WALKS over seat b6601687a: the guards of the laws; the copies, of whatever slice came in.
-/
import Derived.Test.Qxb6601687aSmall
namespace Go.Proofs.Qxb6601687a
open Go.RowKit
set_option linter.unusedVariables false
set_option linter.unusedSimpArgs false

/-- a slice of int32 that came in (the shells' 'IsRow') -/
def Row (k : IntKind) (w : World) (a : Option Addr) (len cap : Nat) (zs : List Int) : Prop :=
  (a = none ∧ len = 0 ∧ cap = 0 ∧ zs = []) ∨
  ∃ x, a = some x ∧ len ≤ cap ∧ cap ≤ maxLen ∧ zs.length = cap ∧ (∀ i, i < zs.length → w.cell? (x.add i) = some (.int k (zs.getD i 0))) ∧ ∀ n ∈ zs, (Lit.int k n).wf = true

theorem Row.len {k w a len cap zs} (h : Row k w a len cap zs) : len ≤ 9223372036854775807 := by
  rcases h with ⟨_, h, _⟩ | ⟨x, _, h1, h2, _⟩
  · omega
  · unfold maxLen at h2; omega

theorem cell_lt {w : World} {p : Addr} {v : Value} (h : w.cell? p = some v) : p.block < w.heap.size := by
  rcases Nat.lt_or_ge p.block w.heap.size with h1 | h1
  · exact h1
  · unfold World.cell? at h
    rw [Array.getElem?_eq_none h1] at h
    cases h

theorem addr_add (b o i : Nat) : (⟨b, o, none⟩ : Addr).add i = ⟨b, o + i, none⟩ := by unfold Addr.add; split <;> simp_all

/-- THE COPY OF A SLICE -/
theorem clone_any (a : Option Addr) (len cap : Nat) (zs : List Int) (w : World) (h : Row .i32 w a len cap zs) (hl : len ≤ 1024) :
    Calls Try.prog 13 #[.slice a len cap] w fun e w' => ∃ aa ca, e = .returned (.slice aa len ca) ∧ (0 < len → aa = some ⟨w.heap.size, 0, none⟩) ∧ Below w.heap.size w w' ∧ (0 < len → w.heap.size < w'.heap.size) ∧
      ∀ i, i < len → w'.cell? ⟨w.heap.size, i, none⟩ = some (.int .i32 (zs.getD i 0)) := by
  rcases h with ⟨rfl, rfl, rfl, rfl⟩ | ⟨x, rfl, h1, h2, h3, h4, h5⟩
  · refine (clone_nil w).mono ?_
    rintro e w' ⟨rfl, rfl⟩
    exact ⟨none, 0, rfl, by omega, Below.refl _ _, by omega, by omega⟩
  · by_cases h0 : len = 0
    · subst h0
      refine (clone_zero x cap w).mono ?_
      rintro e w' ⟨rfl, rfl⟩
      exact ⟨_, 0, rfl, by omega, (Below.refl _ _).alloc (Nat.le_refl _) _, by omega, by omega⟩
    · obtain ⟨b, off, spot⟩ := x
      have hc0 := h4 0 (by omega)
      have hspot : spot = none := by simpa [Addr.add] using World.cell?_spot hc0
      subst hspot
      have hb : b < w.heap.size := by have := cell_lt hc0; simpa [Addr.add] using this
      refine (clone_some b off len cap (fun i => zs.getD i 0) w (by omega) (by omega) hb (fun i hi => ?_)).mono ?_
      · rw [← addr_add]; exact h4 i (by omega)
      · rintro e w' ⟨rfl, rfl⟩
        refine ⟨_, len, rfl, fun _ => rfl, (Below.refl _ _).alloc (Nat.le_refl _) _, fun _ => by simp, fun i hi => ?_⟩
        rw [World.cell?_alloc_at (hn := rfl), cp_get _ _ _ _ _ hi, if_pos hi]

set_option maxHeartbeats 400000 in
theorem bytes23 (a0 a1 : Option Addr) (l0 c0 l1 c1 : Nat) (v2 v3 v4 v5 v6 v7 : Value) (w : World) (h0 : l0 ≤ 9223372036854775807) (h1 : l1 ≤ 9223372036854775807) :
    Calls Try.prog 23 #[.slice a0 l0 c0, .slice a1 l1 c1, v2, v3, v4, v5, v6, v7] w fun e w' => (∃ b, e = .returned (.bool b) ∧ (l0 ≤ 1024 → l1 ≤ 1024 → b = true)) ∧ w' = w := by
  go_enter Try.func23, Try.ntmps23
  go_wp2
  all_goals go_ret
  all_goals exact ⟨⟨_, rfl, by first | (intros; rfl) | (intros; omega)⟩, rfl⟩
set_option maxHeartbeats 400000 in
theorem bytes16 (a0 a1 : Option Addr) (l0 c0 l1 c1 : Nat) (v2 v3 v4 v5 v6 v7 : Value) (w : World) (h0 : l0 ≤ 9223372036854775807) (h1 : l1 ≤ 9223372036854775807) :
    Calls Try.prog 16 #[.slice a0 l0 c0, .slice a1 l1 c1, v2, v3, v4, v5, v6, v7] w fun e w' => (∃ b, e = .returned (.bool b) ∧ (l0 ≤ 1024 → l1 ≤ 1024 → b = true)) ∧ w' = w := by
  go_enter Try.func16, Try.ntmps16
  go_wp2
  all_goals go_ret
  all_goals exact ⟨⟨_, rfl, by first | (intros; rfl) | (intros; omega)⟩, rfl⟩
set_option maxHeartbeats 400000 in
theorem bytes11 (a0 a1 : Option Addr) (l0 c0 l1 c1 : Nat) (v2 v3 v4 v5 : Value) (w : World) (h0 : l0 ≤ 9223372036854775807) (h1 : l1 ≤ 9223372036854775807) :
    Calls Try.prog 11 #[.slice a0 l0 c0, .slice a1 l1 c1, v2, v3, v4, v5] w fun e w' => (∃ b, e = .returned (.bool b) ∧ (l0 ≤ 1024 → l1 ≤ 1024 → b = true)) ∧ w' = w := by
  go_enter Try.func11, Try.ntmps11
  go_wp2
  all_goals go_ret
  all_goals exact ⟨⟨_, rfl, by first | (intros; rfl) | (intros; omega)⟩, rfl⟩
set_option maxHeartbeats 400000 in
theorem bytes20 (a0 a1 : Option Addr) (l0 c0 l1 c1 : Nat) (v2 v3 v4 v5 : Value) (w : World) (h0 : l0 ≤ 9223372036854775807) (h1 : l1 ≤ 9223372036854775807) :
    Calls Try.prog 20 #[.slice a0 l0 c0, .slice a1 l1 c1, v2, v3, v4, v5] w fun e w' => (∃ b, e = .returned (.bool b) ∧ (l0 ≤ 1024 → l1 ≤ 1024 → b = true)) ∧ w' = w := by
  go_enter Try.func20, Try.ntmps20
  go_wp2
  all_goals go_ret
  all_goals exact ⟨⟨_, rfl, by first | (intros; rfl) | (intros; omega)⟩, rfl⟩

set_option maxHeartbeats 400000 in
theorem fit12 (a0 a1 : Option Addr) (l0 c0 l1 c1 : Nat) (x0 x1 y0 y1 : Int) (w : World) (hh : 0 ≤ x0 ∧ x0 ≤ x1 ∧ x1 ≤ l0 ∧ 0 ≤ y0 ∧ y0 ≤ y1 ∧ y1 ≤ l1):
    Calls Try.prog 12 #[.slice a0 l0 c0, .slice a1 l1 c1, .int .i64 x0, .int .i64 x1, .int .i64 y0, .int .i64 y1] w fun e w' => e = .returned (.bool true) ∧ w' = w := by
  obtain ⟨h1, h2, h3, h4, h5, h6⟩ := hh
  go_enter Try.func12, Try.ntmps12
  go_wp2
  all_goals go_ret
  all_goals exact ⟨rfl, rfl⟩

theorem not_fit {x0 x1 y0 y1 l0 l1 : Int} (h : ¬ (0 ≤ x0 ∧ x0 ≤ x1 ∧ x1 ≤ l0 ∧ 0 ≤ y0 ∧ y0 ≤ y1 ∧ y1 ≤ l1)) : x0 < 0 ∨ (0 ≤ x0 ∧ x1 < x0) ∨ (0 ≤ x0 ∧ x0 ≤ x1 ∧ l0 < x1) ∨ (0 ≤ x0 ∧ x0 ≤ x1 ∧ x1 ≤ l0 ∧ y0 < 0) ∨ (0 ≤ x0 ∧ x0 ≤ x1 ∧ x1 ≤ l0 ∧ 0 ≤ y0 ∧ y1 < y0) ∨ (0 ≤ x0 ∧ x0 ≤ x1 ∧ x1 ≤ l0 ∧ 0 ≤ y0 ∧ y0 ≤ y1 ∧ l1 < y1) := by omega

set_option maxHeartbeats 1000000 in
theorem fit12_no (a0 a1 : Option Addr) (l0 c0 l1 c1 : Nat) (x0 x1 y0 y1 : Int) (w : World) (hh : ¬ (0 ≤ x0 ∧ x0 ≤ x1 ∧ x1 ≤ l0 ∧ 0 ≤ y0 ∧ y0 ≤ y1 ∧ y1 ≤ l1)) :
    Calls Try.prog 12 #[.slice a0 l0 c0, .slice a1 l1 c1, .int .i64 x0, .int .i64 x1, .int .i64 y0, .int .i64 y1] w fun e w' => e = .returned (.bool false) ∧ w' = w := by
  have h := not_fit hh
  clear hh
  rcases h with h | ⟨h1, h⟩ | ⟨h1, h2, h⟩ | ⟨h1, h2, h3, h⟩ | ⟨h1, h2, h3, h4, h⟩ | ⟨h1, h2, h3, h4, h5, h⟩
  all_goals
    go_enter Try.func12, Try.ntmps12
    go_wp2
    go_ret
    first | exact ⟨rfl, rfl⟩ | exact ⟨congrArg (fun b => Ending.returned (Value.bool b)) (decide_eq_false (by omega)), rfl⟩
end Go.Proofs.Qxb6601687a
