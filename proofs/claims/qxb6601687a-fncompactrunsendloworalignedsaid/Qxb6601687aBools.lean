/-
  SMALL WALKS over seat b6601687a: slices of bools: the copy, the counts, the guards of the laws on compact.
-/
import Derived.Test.Qxb6601687aGuards
import Derived.Test.Qxb6601687aRuns
namespace Go.Proofs.Qxb6601687a
open Go.RowKit
set_option linter.unusedVariables false
set_option linter.unusedSimpArgs false

/-- a slice of bools that came in -/
def BRow (w : World) (a : Option Addr) (len cap : Nat) (B : Nat → Bool) : Prop :=
  (a = none ∧ len = 0 ∧ cap = 0) ∨ ∃ x, a = some x ∧ len ≤ cap ∧ cap ≤ maxLen ∧ ∀ i, i < cap → w.cell? (x.add i) = some (.bool (B i))

theorem BRow.len {w a len cap B} (h : BRow w a len cap B) : len ≤ 9223372036854775807 := by
  rcases h with ⟨_, h, _⟩ | ⟨x, _, h1, h2, _⟩
  · omega
  · unfold maxLen at h2; omega
theorem BRow.below {w w' : World} {a : Option Addr} {len cap : Nat} {B : Nat → Bool} (h : BRow w a len cap B) (hb : Below w.heap.size w w') : BRow w' a len cap B := by
  rcases h with h | ⟨x, h1, h2, h3, h4⟩
  · exact .inl h
  · refine .inr ⟨x, h1, h2, h3, fun i hi => ?_⟩
    rw [hb.cell (cell_lt (h4 i hi))]; exact h4 i hi

/-- a row of bools that is only read, wherever it begins -/
structure Bs (v : World) (a : Option Addr) (b o n : Nat) (B : Nat → Bool) : Prop where
  at_ : 0 < n → a = some ⟨b, o, none⟩
  lt : 0 < n → b < v.heap.size
  cells : ∀ i, i < n → v.cell? ⟨b, o + i, none⟩ = some (.bool (B i))
theorem BRow.bs {w a len cap B} (h : BRow w a len cap B) : ∃ b o, Bs w a b o len B := by
  rcases h with ⟨rfl, rfl, rfl⟩ | ⟨x, rfl, h1, h2, h3⟩
  · exact ⟨0, 0, by omega, by omega, by omega⟩
  · by_cases h0 : len = 0
    · subst h0; exact ⟨0, 0, by omega, by omega, by omega⟩
    · obtain ⟨b, off, spot⟩ := x
      have hc0 := h3 0 (by omega)
      have hspot : spot = none := by simpa [Addr.add] using World.cell?_spot hc0
      subst hspot
      have hb : b < w.heap.size := by have := cell_lt hc0; simpa [Addr.add] using this
      exact ⟨b, off, fun _ => rfl, fun _ => hb, fun i hi => by rw [← addr_add]; exact h3 i (by omega)⟩

set_option maxHeartbeats 400000 in
theorem bytes30 (a0 a1 a2 : Option Addr) (l0 c0 l1 c1 l2 c2 : Nat) (w : World) (h0 : l0 ≤ 9223372036854775807) (h1 : l1 ≤ 9223372036854775807) (h2 : l2 ≤ 9223372036854775807) :
    Calls Try.prog 30 #[.slice a0 l0 c0, .slice a1 l1 c1, .slice a2 l2 c2] w fun e w' => (∃ b, e = .returned (.bool b) ∧ (l0 ≤ 4096 → l1 ≤ 4096 → l2 ≤ 4096 → b = true)) ∧ w' = w := by
  go_enter Try.func30, Try.ntmps30
  go_wp2
  all_goals go_ret
  all_goals exact ⟨⟨_, rfl, by first | (intros; rfl) | (intros; omega)⟩, rfl⟩

set_option maxHeartbeats 1000000 in
theorem count35 (a : Option Addr) (b o n c : Nat) (B : Nat → Bool) (w : World) (hn : n ≤ 4096) (h : Bs w a b o n B) :
    Calls Try.prog 35 #[.slice a n c] w fun e w' => e = .returned (.int .i64 (Cm.un B n : Int)) ∧ w' = w := by
  have H : Hid (Bs w a b o n B) := h
  clear h
  go_enter Try.func35, Try.ntmps35
  go_wp2
  go_loopw [3, 4] (fun u i wr => ∃ k : Nat, k ≤ n ∧ i = .int .i64 k ∧ u = .int .i64 (Cm.un B k) ∧ wr = w) (fun _ i _ => n - (intOf i).toNat)
  case atStart => exact ⟨0, Nat.zero_le _, rfl, rfl, rfl⟩
  case round =>
    obtain ⟨k, hk, rfl, rfl, rfl⟩ := hrel
    have hle := Cm.un_le B k
    by_cases hlt : k < n
    · obtain rfl := H.out.at_ (by omega)
      have hck := H.out.cells k hlt
      have e1 : B k = true → Cm.un B (k + 1) = Cm.un B k := Cm.un_on
      have e2 : B k = false → Cm.un B (k + 1) = Cm.un B k + 1 := Cm.un_off
      have E1 : Hid (B k = true → Cm.un B (k + 1) = Cm.un B k) := e1
      have E2 : Hid (B k = false → Cm.un B (k + 1) = Cm.un B k + 1) := e2
      clear e1 e2
      generalize B k = bk at *
      cases bk
      all_goals
        go_wp2
        go_roundw
        case rel => exact ⟨k + 1, by omega, by go_num, by first | (rw [E1.out rfl]) | (rw [E2.out rfl]; rfl), trivial⟩
        case measure => simp [intOf]; omega
    · obtain rfl : k = n := by omega
      go_wp2
      go_ret
      exact ⟨rfl, rfl⟩

theorem clone19_nil (w : World) : Calls Try.prog 19 #[.slice none 0 0] w fun e w' => e = .returned (.slice none 0 0) ∧ w' = w := by
  have hq := nil25
  go_enter Try.func19, Try.ntmps19
  go_wp2
  go_ret
  exact ⟨rfl, rfl⟩

set_option maxHeartbeats 1000000 in
theorem clone19_some (x : Addr) (b off len cap : Nat) (f : Nat → Bool) (w : World) (hl : len ≤ 4096) (h : Bs w (some x) b off len f) :
    Calls Try.prog 19 #[.slice (some x) len cap] w fun e w' =>
      e = .returned (.slice (some ⟨w.heap.size, 0, none⟩) len len) ∧ w' = w.alloc (.cells (cp (fun i => .bool (f i)) (.bool false) len len) 4) := by
  have hq := nil25
  have hm := fun w => make25 len (by omega) w
  rw [cp_zero (fun i => .bool (f i)) _ _ rfl] at hm
  have H : Hid (Bs w (some x) b off len f) := h
  clear h
  go_enter Try.func19, Try.ntmps19
  go_wp2
  go_loopw [4] (fun i wr => ∃ k : Nat, k ≤ len ∧ i = .int .i64 k ∧ wr = w.alloc (.cells (cp (fun i => .bool (f i)) (.bool false) len k) 4)) (fun i _ => len - (intOf i).toNat)
  case atStart => exact ⟨0, Nat.zero_le _, rfl, rfl⟩
  case round =>
    obtain ⟨k, hk, rfl, rfl⟩ := hrel
    by_cases hlt : k < len
    · have hx := H.out.at_ (by omega)
      simp only [Option.some.injEq] at hx
      subst hx
      have hck := H.out.cells k hlt
      have hbl := H.out.lt (by omega)
      have hg : (w.alloc (.cells (cp (fun i => .bool (f i)) (.bool false) len k) 4)).cell? ⟨w.heap.size, k, none⟩ = some (.bool false) := by
        rw [World.cell?_alloc_at (hn := rfl)]; rw [cp_get _ _ _ _ _ hlt, if_neg (by omega)]
      go_wp2
      go_roundw
      case rel => exact ⟨k + 1, by omega, by go_num, by rw [← cp_succ]⟩
      case measure => simp [intOf]; omega
    · obtain rfl : k = len := by omega
      go_wp2
      go_ret
      exact ⟨rfl, rfl⟩
end Go.Proofs.Qxb6601687a
