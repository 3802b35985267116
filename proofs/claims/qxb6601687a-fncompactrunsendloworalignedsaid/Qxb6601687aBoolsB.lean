/-
  SMALL WALKS over seat b6601687a: zzOtherChangesAfter, zzDomainOfCompact, the copy of whatever slice of bools came in.
-/
import Derived.Test.Qxb6601687aBools
namespace Go.Proofs.Qxb6601687a
open Go.RowKit
set_option linter.unusedVariables false
set_option linter.unusedSimpArgs false

set_option maxHeartbeats 1000000 in
theorem after31 (a : Option Addr) (b o n c u : Nat) (B : Nat → Bool) (w : World) (hn : n ≤ 4096) (hu : u ≤ 4096) (h : Bs w a b o n B) :
    Calls Try.prog 31 #[.slice a n c, .int .i64 (u : Int)] w fun e w' => e = .returned (.bool (Cm.sl B n u)) ∧ w' = w := by
  have H : Hid (Bs w a b o n B) := h
  clear h
  go_enter Try.func31, Try.ntmps31
  go_wp2
  go_loopw [5, 6] (fun s i wr => ∃ k : Nat, k ≤ n ∧ i = .int .i64 k ∧ s = .int .i64 (Cm.un B k) ∧ wr = w ∧ Hid (Cm.sl B k u = false)) (fun _ i _ => n - (intOf i).toNat)
  case atStart => exact ⟨0, Nat.zero_le _, rfl, rfl, rfl, rfl⟩
  case round =>
    obtain ⟨k, hk, rfl, rfl, rfl, hs⟩ := hrel
    have hle := Cm.un_le B k
    by_cases hlt : k < n
    · obtain rfl := H.out.at_ (by omega)
      have hck := H.out.cells k hlt
      have E1 : Hid (B k = true → Cm.un B k = u → Cm.sl B n u = true) := fun h1 h2 => Cm.sl_true hlt h1 h2
      have E2 : Hid (B k = true → Cm.un B k ≠ u → Cm.sl B (k + 1) u = false ∧ Cm.un B (k + 1) = Cm.un B k) := fun h1 h2 => ⟨by rw [Cm.sl_keep (fun h => h2 h.symm)]; exact hs.out, Cm.un_on h1⟩
      have E3 : Hid (B k = false → Cm.sl B (k + 1) u = false ∧ Cm.un B (k + 1) = Cm.un B k + 1) := fun h1 => ⟨by rw [Cm.sl_off h1]; exact hs.out, Cm.un_off h1⟩
      clear hs
      generalize B k = bk at *
      cases bk
      · go_wp2
        go_roundw
        case rel => exact ⟨k + 1, by omega, by go_num, by rw [(E3.out rfl).2]; rfl, trivial, (E3.out rfl).1⟩
        case measure => simp [intOf]; omega
      · by_cases he : Cm.un B k = u
        · have E4 : Hid (Cm.sl B n u = true) := E1.out rfl he
          clear E1 E2 E3
          have he2 : ((Cm.un B k : Int) == (u : Int)) = true := by simp; omega
          go_wp2
          go_ret
          exact ⟨by rw [E4.out]; rfl, rfl⟩
        · have E4 := E2.out rfl he
          have E5 : Hid (Cm.sl B (k + 1) u = false ∧ Cm.un B (k + 1) = Cm.un B k) := E4
          clear E1 E2 E3 E4
          have he2 : ((Cm.un B k : Int) == (u : Int)) = false := by simp; omega
          go_wp2
          go_roundw
          case rel => exact ⟨k + 1, by omega, by go_num, by rw [E5.out.2], trivial, E5.out.1⟩
          case measure => simp [intOf]; omega
    · obtain rfl : k = n := by omega
      go_wp2
      go_ret
      exact ⟨by rw [hs.out]; rfl, rfl⟩

set_option maxHeartbeats 1000000 in
theorem dom25_no (a0 a1 a2 : Option Addr) (l0 c0 l1 c1 l2 c2 : Nat) (w : World) (h0 : l0 ≤ 4096) (h1 : l1 ≤ 4096) (h : l1 ≠ l0) :
    Calls Try.prog 25 #[.slice a0 l0 c0, .slice a1 l1 c1, .slice a2 l2 c2] w fun e w' => e = .returned (.bool false) ∧ w' = w := by
  have h2 : ((l1 : Int) == (l0 : Int)) = false := by simp; omega
  go_enter Try.func25, Try.ntmps25
  go_wp2
  go_ret
  exact ⟨rfl, rfl⟩
set_option maxHeartbeats 1000000 in
theorem dom25 (a0 a1 a2 : Option Addr) (l0 c0 c1 l2 c2 b1 o1 b2 o2 : Nat) (B1 B2 : Nat → Bool) (w : World) (h0 : l0 ≤ 4096) (h2 : l2 ≤ 4096) (s1 : Bs w a1 b1 o1 l0 B1) (s2 : Bs w a2 b2 o2 l2 B2) :
    Calls Try.prog 25 #[.slice a0 l0 c0, .slice a1 l0 c1, .slice a2 l2 c2] w fun e w' => e = .returned (.bool (decide ((Cm.un B1 l0 : Int) = (Cm.un B2 l2 : Int)))) ∧ w' = w := by
  have S1 : Hid (Bs w a1 b1 o1 l0 B1) := s1
  have S2 : Hid (Bs w a2 b2 o2 l2 B2) := s2
  clear s1 s2
  have u1 := Cm.un_le B1 l0
  have u2 := Cm.un_le B2 l2
  have hh : ((l0 : Int) == (l0 : Int)) = true := by simp
  go_enter Try.func25, Try.ntmps25
  go_wp2_with fail
  refine (count35 a1 b1 o1 l0 c1 B1 _ h0 S1.out).mono ?_
  rintro e w' ⟨rfl, rfl⟩
  go_wp2_with fail
  refine (count35 a2 b2 o2 l2 c2 B2 _ h2 S2.out).mono ?_
  rintro e w' ⟨rfl, rfl⟩
  go_wp2_with fail
  go_ret
  exact ⟨by first | rfl | simp, rfl⟩

/-- a row of bools of the call's own -/
theorem clone19_any (a : Option Addr) (len cap : Nat) (B : Nat → Bool) (w : World) (h : BRow w a len cap B) (hl : len ≤ 4096) :
    Calls Try.prog 19 #[.slice a len cap] w fun e w' => ∃ aa, e = .returned (.slice aa len len) ∧ Bs w' aa w.heap.size 0 len B ∧ Below w.heap.size w w' ∧
      (0 < len → w'.heap[w.heap.size]? = some (.cells (cp (fun i => .bool (B i)) (.bool false) len len) 4 (0, 0))) ∧ (aa = none ∨ aa = some ⟨w.heap.size, 0, none⟩) := by
  obtain ⟨b, o, hs⟩ := h.bs
  rcases h with ⟨rfl, rfl, rfl⟩ | ⟨x, rfl, h1, h2, h3⟩
  · refine (clone19_nil w).mono ?_
    rintro e w' ⟨rfl, rfl⟩
    exact ⟨none, rfl, ⟨by omega, by omega, by omega⟩, Below.refl _ _, by omega, .inl rfl⟩
  · refine (clone19_some x b o len cap B w hl hs).mono ?_
    rintro e w' ⟨rfl, rfl⟩
    refine ⟨_, rfl, ⟨fun _ => rfl, fun _ => by simp, fun i hi => ?_⟩, (Below.refl _ _).alloc (Nat.le_refl _) _, fun _ => ?_, .inr rfl⟩
    · rw [Nat.zero_add, World.cell?_alloc_at (hn := rfl), cp_get _ _ _ _ _ hi, if_pos hi]
    · show (w.heap.push _)[w.heap.size]? = _
      simp
theorem Bs.below {v v' : World} {a : Option Addr} {b o n : Nat} {B : Nat → Bool} (h : Bs v a b o n B) (hb : Below v.heap.size v v') : Bs v' a b o n B :=
  ⟨h.at_, fun h0 => Nat.lt_of_lt_of_le (h.lt h0) hb.size, fun i hi => by rw [hb.cell (p := ⟨b, o + i, none⟩) (h.lt (by omega))]; exact h.cells i hi⟩
end Go.Proofs.Qxb6601687a
