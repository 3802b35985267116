/-
  SEAT b6002353a: Agrees.
-/
import Derived.Test.Qxb6002353aSusp
namespace Go.Proofs.Qxb6002353a
open Go.RowKit
set_option linter.unusedVariables false
set_option linter.unusedSimpArgs false

theorem own_cells {w : World} {base : Nat} {v : Value} {l : List ByteArray} (h : w.ownsRow base 9 1 v l.length (l.map .string)) : ∃ ad c, v = .slice ad l.length c ∧ (0 < l.length → ∃ g, ad = some ⟨g, 0, none⟩ ∧ ∀ (t : Nat) s, l[t]? = some s → w.cell? ⟨g, t, none⟩ = some (.string s)) := by
  rcases h.2 with ⟨rfl, hl⟩ | ⟨g, cap, cur, rfl, k1, k2, k3, k4, k5, k6⟩
  · exact ⟨none, 0, by rw [hl], fun h => by omega⟩
  · refine ⟨_, cap, rfl, fun _ => ⟨g, rfl, fun t s ht => ?_⟩⟩
    have h1 : (l.map Value.string)[t]? = some (.string s) := by simp [ht]
    rw [← k6, List.getElem?_take_of_lt (by have := (List.getElem?_eq_some_iff.1 ht).1; omega)] at h1
    rw [cell_of k2]
    simpa using h1
theorem TypedE.recs {E w G x} (T : TypedE E w G) (hx : x < G.k) (hE : ¬ E (G.lay x).rb) (hE2 : ∀ b, (G.kd b).t = 12 → ¬ E b) : ∃ ad c fr, w.heap[(G.lay x).rb]? = some (.cells #[.slice ad (G.rs x).length c, .bool false, fr] 38 (0, 0)) ∧ FrOk G x fr ∧ (0 < (G.rs x).length → ∃ g, ad = some ⟨g, 0, none⟩ ∧ ∀ (t : Nat) s, (G.rs x)[t]? = some s → w.cell? ⟨g, t, none⟩ = some (.string s)) := by
  obtain ⟨o, ho, u, v, rfl, h1, h2⟩ := T.obj (T.rb x hx) (by simp) hE
  rcases h1 with ⟨rfl, h1⟩ | ⟨b, c, rfl, h1⟩
  · have h1 : G.rs x = [] := h1
    exact ⟨none, 0, v, by rw [h1]; exact ho, h2, fun h => by rw [h1] at h; simp at h⟩
  · obtain ⟨o2, ho2, arr, rfl, -, -, h3⟩ := T.obj h1 (by simp) (hE2 b (by rw [h1]))
    exact ⟨_, c, v, ho, h2, fun _ => ⟨b, rfl, fun t s ht => (cell_of ho2 t).trans (h3 t s ht)⟩⟩

set_option maxHeartbeats 8000000 in
set_option maxRecDepth 100000 in
theorem c11 {w G x v base} (T : Typed w G) (hx : x < G.k) (own : w.ownsRow base 9 1 v (G.rs x).length ((G.rs x).map .string)) : Calls Try.prog 11 #[v, .int .i64 (x : Nat), .int .i64 (G.k : Nat), .pointer (some ⟨(G.lay x).rb, 0, none⟩)] w fun e w' => ∃ q, e = .returned (.bool true) ∧ w' = w.drewN q := by
  obtain ⟨av, cv, rfl, hv⟩ := own_cells own
  obtain ⟨au, cu, fr, hr, -, hu⟩ := T.T.recs hx id (fun _ _ => id)
  have r0 := (cell_of hr 0).trans (rfl : _ = some (Value.slice au (G.rs x).length cu))
  have r1 := (cell_of hr 1).trans (rfl : _ = some (Value.bool false))
  have hk5 := T.T.k5
  have hsrt := T.T.srt x hx
  have hrid := T.T.rid x hx
  have hall : ∀ (t : Nat) s, (G.rs x)[t]? = some s → ∃ i, i < G.k ∧ s = nm i ∧ i ≠ x := fun t s ht => by
    obtain ⟨⟨i, h1, h2⟩, h3⟩ := hrid s (List.mem_of_getElem? ht)
    exact ⟨i, h1, h2, fun e => h3 (by rw [h2, e])⟩
  have hlt : ∀ (t : Nat) (s s' : ByteArray), (G.rs x)[t]? = some s → (G.rs x)[t + 1]? = some s' → Op.bytesLess s.toList s'.toList = true := fun t s s' h1 h2 => by
    have hp := (List.pairwise_iff_getElem.1 hsrt) t (t + 1) (List.getElem?_eq_some_iff.1 h1).1 (List.getElem?_eq_some_iff.1 h2).1 (by omega)
    obtain ⟨i, j, h3, h4, h5, h6⟩ := hp
    rw [(List.getElem?_eq_some_iff.1 h1).2] at h5
    rw [(List.getElem?_eq_some_iff.1 h2).2] at h6
    rw [h5, h6, less_nm (by omega) h4]
    simpa using h3
  have hl5 : (G.rs x).length ≤ 5 := by
    have := sorted_len hsrt 0 (fun s hs => by obtain ⟨⟨i, h1, h2⟩, _⟩ := hrid s hs; exact ⟨i, by omega, by omega, h2⟩)
    omega
  generalize hn : (G.rs x).length = n at *
  have HV := hid hv
  have HU := hid hu
  have HALL := hid hall
  have HLT := hid hlt
  have HN := hid hn
  have C24 := hid (c24 x (by omega) )
  generalize hkk : G.k = k at *
  have C20 : Hid (∀ (i : Nat), i < k → ∀ W, Calls Try.prog 20 #[.string (nm i), .int .i64 k] W fun e w' => e = .returned (.int .i64 i) ∧ w' = W) := fun i hi W => c20 i k hi hk5 W
  clear T own hr hv hu hsrt hrid hall hlt hn
  go_enter Try.func11, Try.ntmps11
  go_wp2_with fail
  go_loopg [9] n (fun kk t wr => ∃ (tt q : Nat), tt + kk = n ∧ t = .int .i64 tt ∧ wr = w.drewN q)
  case atStart => exact ⟨0, 0, by omega, rfl, rfl⟩
  case round =>
    obtain ⟨tt, q, hj, rfl, rfl⟩ := hrel
    by_cases hlt : tt < n
    · have hlt' : (tt : Int) < (n : Int) := by omega
      obtain ⟨gv, rfl, cv'⟩ := HV.out (by omega)
      obtain ⟨gu, rfl, cu'⟩ := HU.out (by omega)
      obtain ⟨s, hs⟩ : ∃ s, (G.rs x)[tt]? = some s := ⟨(G.rs x)[tt]'(by have := HN.out; omega), by simp⟩
      have c1 := cv' tt s hs
      have c2 := cu' tt s hs
      obtain ⟨i, hi, rfl, hix⟩ := HALL.out tt s hs
      have tl := tl_self (nm i)
      have tn := nm_ne (i := i) (j := x) (by omega) (by omega) hix
      have CV := hid cv'
      have HS := hid hs
      clear cv' cu' hs
      go_upto_region 8 with fail
      go_quiet (fail)
      go_wp2_with fail
      have c1b : ((w.drewN q).drewN nq).cell? ⟨gv, tt, none⟩ = some (.string (nm i)) := c1
      have c3b : ∀ (t' : Nat) s', w.cell? ⟨gv, t', none⟩ = some (.string s') → ((w.drewN q).drewN nq).cell? ⟨gv, t', none⟩ = some (.string s') := fun _ _ h => h
      have hWq : (w.drewN q).drewN nq = w.drewN (q + nq) := by simp
      have C3 := hid c3b
      have c3b := C3.out
      generalize hW2 : (w.drewN q).drewN nq = W2 at *
      have CB := hid c3b
      have HWQ := hid hWq
      clear hW2 hWq C3 c1 c2 c3b r0 r1
      go_quiet (first | (go_at_call 24; exact Calls.quiet_of_same (C24.out _)) | (go_at_call 20; exact Calls.quiet_of_same (C20.out i hi _)))
      go_wp2_with fail
      by_cases h0 : tt = 0
      · subst h0
        go_quiet (fail)
        go_wp2_with fail
        go_roundg (gk - 1)
        case measure => omega
        case rel => exact ⟨1, _, by omega, rfl, by rw [HWQ.out]; simp; rfl⟩
      · obtain ⟨t', rfl⟩ : ∃ t', tt = t' + 1 := ⟨tt - 1, by omega⟩
        obtain ⟨s', hs'⟩ : ∃ s', (G.rs x)[t']? = some s' := ⟨(G.rs x)[t']'(by have := HN.out; omega), by simp⟩
        have c3 := CB.out t' s' (CV.out t' s' hs')
        have bl := HLT.out t' s' (nm i) hs' HS.out
        have h1 : (0 : Int) < ((t' + 1 : Nat) : Int) := by omega
        have h2 : decide (0 < t' + 1) = true := by simp
        have h3 : ((t' : Int) < (n : Int)) := by omega
        clear h0 hs'
        go_quiet (fail)
        go_wp2_with fail
        go_roundg (gk - 1)
        case measure => omega
        case rel => exact ⟨t' + 1 + 1, _, by omega, rfl, by rw [HWQ.out]; simp; rfl⟩
    · have hge : (n : Int) ≤ (tt : Int) := by omega
      go_wp2_with fail
      go_ret
      exact ⟨_, rfl, rfl⟩
end Go.Proofs.Qxb6002353a
