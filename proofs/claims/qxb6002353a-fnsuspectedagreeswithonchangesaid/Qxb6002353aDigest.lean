/-
  SEAT b6002353a: digest.
-/
import Derived.Test.Qxb6002353aBytes
import Derived.Test.Qxb6002353aTake
namespace Go.Proofs.Qxb6002353a
open Go.RowKit
set_option linter.unusedVariables false
set_option linter.unusedSimpArgs false

set_option maxHeartbeats 4000000 in
set_option maxRecDepth 100000 in
theorem c110 {w : World} {hb : Nat} {z : Int} (h : w.cell? ⟨hb, 0, none⟩ = some (.int .u64 z)) : Calls Try.prog 110 #[.pointer (some ⟨hb, 0, none⟩)] w fun e w' => e = .returned (.int .u64 z) ∧ w' = w := by
  go_enter Try.func110, Try.ntmps110
  go_wp2_with fail
  go_ret
  exact ⟨rfl, rfl⟩

set_option maxHeartbeats 4000000 in
set_option maxRecDepth 100000 in
theorem c72 (w : World) : Calls Try.prog 72 #[] w fun e w' => e = .returned (.iface 133 (.pointer (some ⟨w.heap.size, 0, none⟩))) ∧ w' = w.alloc (.cells #[.int .u64 14695981039346656037] 132) := by
  go_enter Try.func72, Try.ntmps72
  go_wp2_with fail
  go_ret
  exact ⟨rfl, rfl⟩

set_option maxHeartbeats 4000000 in
set_option maxRecDepth 100000 in
theorem c111 {w G v n hb z} (T : Typed w G) (B : Bt G v n w) (hn : n ≤ 90000) (hh : G.kd hb = kEx (.cells #[.int .u64 z] 132 (0, 0))) (h0 : G.w0.heap.size ≤ hb) :
    Calls Try.prog 111 #[.pointer (some ⟨hb, 0, none⟩), v] w fun e w' => ∃ y z', e = .returned (.tuple #[.int .i64 y, .nilIface]) ∧ Typed w' (G.put hb (kEx (.cells #[.int .u64 z'] 132 (0, 0)))) := by
  obtain ⟨xs, hx, hxs⟩ := B.own
  have hex := T.T.exact hh id
  have hc : w.cell? ⟨hb, 0, none⟩ = some (.int .u64 z) := (cell_of hex _).trans rfl
  have hf := fz_of hex
  have fin : Hid (∀ z' : Int, Typed (w.setCell ⟨hb, 0, none⟩ (.int .u64 z')) (G.put hb (kEx (.cells #[.int .u64 z'] 132 (0, 0))))) := fun z' => by
    have T1 := T.T.rekind (b := hb) kAny (.inl (by rw [hh])) h0 (fun _ _ _ => trivial) ⟨by simp, by simp, by simp, by simp, by simp⟩
    have T2 := T1.setE (b := hb) (i := 0) (v := .int .u64 z') (.inr (by rw [Gh.put_at]))
    have T3 := T2.rekind (b := hb) (kEx (.cells #[.int .u64 z'] 132 (0, 0))) (.inr (.inl (by rw [Gh.put_at]))) h0 (fun o ho _ => by
      rw [setCell_at hex] at ho; cases ho; rfl) ⟨by simp, by simp, by simp, by simp, by simp⟩
    have e : (G.put hb kAny).put hb (kEx (.cells #[.int .u64 z'] 132 (0, 0))) = G.put hb (kEx (.cells #[.int .u64 z'] 132 (0, 0))) := by
      unfold Gh.put; congr 1; funext i; by_cases e : i = hb <;> simp [e]
    rw [e] at T3
    exact ⟨T3, T.A⟩
  have cells : Hid (∀ j, j < n → ∃ g c y, v = .slice (some ⟨g, 0, none⟩) n c ∧ w.cell? ⟨g, j, none⟩ = some (.int .u8 y) ∧ n ≤ c) := fun j hj => by
    rcases hx.2 with ⟨_, h⟩ | ⟨g, cap, cur, rfl, k1, k2, k3, k4, k5, k6⟩
    · omega
    · have hlx : j < xs.length := by have := hx.1; omega
      obtain ⟨y, hy⟩ := hxs xs[j] (List.getElem_mem hlx)
      refine ⟨g, cap, y, rfl, ?_, k3⟩
      rw [cell_of k2]
      have : xs[j]? = some (.int .u8 y) := by rw [← hy]; simp [hlx]
      rw [← k6] at this
      simp only [Nat.mul_one] at this
      rw [List.getElem?_take_of_lt hj] at this
      simpa using this
  obtain ⟨ad, cc, hv⟩ : ∃ ad cc, v = .slice ad n cc := by
    rcases hx.2 with ⟨rfl, rfl⟩ | ⟨g, cap, cur, rfl, _⟩
    · exact ⟨none, 0, rfl⟩
    · exact ⟨_, _, rfl⟩
  subst hv
  clear T B hx hxs hex hh
  go_enter Try.func111, Try.ntmps111
  go_wp2_with fail
  go_loopg [6, 14] n (fun k a i wr => w = wr ∧ ∃ j : Nat, j + k = n ∧ i = .int .i64 j ∧ ∃ y, a = .int .u64 y)
  case atStart => exact ⟨rfl, 0, by omega, rfl, _, rfl⟩
  case round =>
    obtain ⟨rfl, j, hj, rfl, y, rfl⟩ := hrel
    have J := hid hj
    by_cases hlt : j < n
    · have hlt' : (j : Int) < (n : Int) := by omega
      obtain ⟨g, c, yy, he, hcj, hnc⟩ := cells.out j hlt
      cases he
      clear hj
      go_wp2_with fail
      go_roundg (gk - 1)
      case measure => have := J.out; omega
      case rel => exact ⟨rfl, j + 1, by have := J.out; omega, rfl, _, rfl⟩
    · have hge : (n : Int) ≤ (j : Int) := by omega
      clear hj
      go_wp2_with fail
      go_ret2
      exact ⟨_, _, rfl, fin.out _⟩

theorem Bt.le {G G' : Gh} {v n w} (B : Bt G v n w) (hw : G'.w0 = G.w0) (hk : ∀ b, v.ownBlock = some b → G'.kd b = G.kd b) {w' : World} (hb : ∀ b, v.ownBlock = some b → w'.heap[b]? = w.heap[b]?) : Bt G' v n w' := by
  obtain ⟨xs, h1, h2⟩ := B.own
  exact ⟨fun b h => by rw [hk b h]; exact B.vk b h, xs, by rw [hw]; exact own_of_block h1 hb, h2⟩

set_option maxHeartbeats 4000000 in
set_option maxRecDepth 100000 in
theorem c73 {w G v} (T : Typed w G) (hv : EntOk G v) : Calls Try.prog 73 #[.slice none 0 0, v] w fun e w' => BPost 1000 G 0 e w' := by
  obtain ⟨ad, nn, c, rfl, hn5, hent⟩ := hv.shape
  obtain ⟨ii, k1, k2, k3, k4⟩ := info_parts info5
  have B0 : Bt G (.slice none 0 0) 0 w := ⟨(fun b h => by cases h), [], ⟨rfl, .inl ⟨rfl, rfl⟩⟩, by simp⟩
  have C0 := hid (c84 (z := (nn : Int)) T B0 ⟨by omega, by omega⟩ (by omega))
  have ENT := hid hent
  have hw : IntKind.u64.wrap (nn : Int) = (nn : Int) := by simp [IntKind.wrap, IntKind.bits, IntKind.signed]; omega
  clear T hent hv B0
  go_enter Try.func73, Try.ntmps73
  go_wp2_with fail
  refine C0.out.mono ?_
  rintro e w' ⟨v1, n1, G1, rfl, L1, T1, B1, hn1⟩
  have X0 := hid (And.intro L1 (And.intro T1 (And.intro B1 hn1)))
  clear L1 T1 B1 hn1
  go_wp2_with fail
  go_loopg [0, 14] nn (fun k a i wr => ∃ (j n' : Nat) (G' : Gh), j + k = nn ∧ i = .int .i64 j ∧ n' ≤ 10 + 50 * j ∧ Le 0 G G' ∧ Typed wr G' ∧ Bt G' a n' wr)
  case atStart => obtain ⟨L1, T1, B1, hn1⟩ := X0.out; exact ⟨0, n1, G1, by omega, rfl, by omega, L1, T1, B1⟩
  case round =>
    obtain ⟨j, n2, G2, hj, rfl, hn2, L2, T2, B2⟩ := hrel
    have J := hid (And.intro hj hn2)
    have LL := hid L2
    by_cases hlt : j < nn
    · have hlt' : (j : Int) < (nn : Int) := by omega
      obtain ⟨b, rfl, hk⟩ := ENT.out (by omega)
      obtain ⟨sn, tg, su, ⟨hsi, htg⟩, e0, e1, e2⟩ := T2.T.ent (L2.up hk (by simp) (by simp) (by simp)) id hlt
      obtain ⟨i, hik, rfl⟩ := hsi
      have hf := T2.T.fr _ (Nat.le_refl _)
      have T3 : Typed (wr.alloc (.cells #[.string (nm i), .int .u64 tg, .bool su] 91)) (G2.put wr.heap.size (kEx (.cells #[.string (nm i), .int .u64 tg, .bool su] 91 (0, 0)))) := ⟨T2.T.alloc _ rfl ⟨by simp, by simp, by simp, by simp, by simp⟩, T2.A⟩
      have L3 : Le 0 G2 (G2.put wr.heap.size (kEx (.cells #[.string (nm i), .int .u64 tg, .bool su] 91 (0, 0)))) := Le.put _ (by rw [hf])
      have B3 : Bt (G2.put wr.heap.size (kEx (.cells #[.string (nm i), .int .u64 tg, .bool su] 91 (0, 0)))) u0 n2 (wr.alloc (.cells #[.string (nm i), .int .u64 tg, .bool su] 91)) := by
        obtain ⟨xs, h1, h2⟩ := B2.own
        have hl : ∀ b, u0.ownBlock = some b → b < wr.heap.size := fun b h => own_lt h1 h
        exact Bt.le (G' := G2.put wr.heap.size (kEx (.cells #[.string (nm i), .int .u64 tg, .bool su] 91 (0, 0)))) B2 rfl (fun b h => Gh.put_ne _ _ (by have := hl b h; omega)) (fun b h => alloc_lt _ _ (hl b h))
      have C3 := hid (c85 (i := i) T3 B3 (by omega))
      have eb : (G2.put wr.heap.size (kEx (.cells #[.string (nm i), .int .u64 tg, .bool su] 91 (0, 0)))).kd wr.heap.size = kEx (.cells #[.string (nm i), .int .u64 tg, .bool su] 91 (0, 0)) := Gh.put_at _ _ _
      have EB := hid eb
      have HTG := hid htg
      have LL3 := hid (L2.trans L3)
      generalize (G2.put wr.heap.size (kEx (.cells #[.string (nm i), .int .u64 tg, .bool su] 91 (0, 0)))) = G3 at *
      clear hk htg T2 L2 B2 hf L3 B3 T3 eb hj hn2 LL
      go_wp2_with fail
      refine C3.out.mono ?_
      rintro e w' ⟨v4, n4, G4, rfl, L4, T4, B4, hn4⟩
      obtain ⟨c0, c1, c2⟩ := T4.T.ex3 (L4.up EB.out (by simp) (by simp) (by simp)) id
      have EB4 := hid (L4.up EB.out (by simp) (by simp) (by simp))
      have LL4 := hid (LL3.out.trans L4)
      have C4 := hid (c84 (z := tg) T4 B4 HTG.out (by have := J.out.2; omega))
      have HN4 := hid hn4
      clear L4 T4 B4 hn4 EB LL3 C3 e0 e1 e2
      go_wp2_with fail
      refine C4.out.mono ?_
      rintro e w' ⟨v5, n5, G5, rfl, L5, T5, B5, hn5'⟩
      clear c0 c1 c2
      obtain ⟨c0, c1, c2⟩ := T5.T.ex3 (L5.up EB4.out (by simp) (by simp) (by simp)) id
      obtain ⟨xs, hx, hxs⟩ := B5.own
      have hsz := T5.T.size
      have hbound : n5 ≤ 1000 := by have := J.out.2; have := HN4.out; omega
      have X := hid (And.intro T5 (And.intro B5 (And.intro hx (And.intro hxs (And.intro (LL4.out.trans L5) hn5')))))
      have B1' := hid (show n5 + 1 ≤ maxLen by unfold maxLen; omega)
      have B2' := hid (show (n5 + 1) * 1 ≤ 140737488355328 by omega)
      have HF1 : Hid (∀ y, (w'.alloc (.cells #[.int .u8 y] 5)).ownsRow G5.w0.heap.size 5 1 v5 n5 xs) := fun y => own_of_block X.out.2.2.1 (fun b hb => alloc_lt _ _ (own_lt X.out.2.2.1 hb))
      have HN : Hid (∀ y, ∀ j u, [Value.int .u8 y][j]? = some u → (w'.alloc (.cells #[.int .u8 y] 5)).cell? ((⟨w'.heap.size, 0, none⟩ : Addr).add j) = some u) := fun y => cell_one_new w' (.int .u8 y) 5
      have B3' : Hid (∀ y, G5.w0.heap.size ≤ (w'.alloc (.cells #[.int .u8 y] 5)).heap.size) := fun y => by rw [alloc_size]; omega
      clear T5 B5 hx hxs L5 hn5' hsz LL4 C4 hbound
      cases su
      all_goals
        go_wp2_with (at_builtin; refine wpList_append_own_at _ rfl _ _ 22 rfl G5.w0.heap.size 5 ii (.int .u8 0) 1 1 Try.underlying22 k1 k2 k3 k4 rfl (by omega) v5 n5 xs rfl (HF1.out _) ⟨w'.heap.size, 0, none⟩ 1 1 [.int .u8 _] rfl rfl (HN.out _) (by simp [Value.oneCell']) B1'.out B2'.out (B3'.out _) ?_; intro v' w5 hown5 hg5 hnil5 hloc5; have H5 := hid (And.intro hown5 (And.intro hg5 hloc5)); clear hown5 hg5 hnil5 hloc5)
        go_roundg (gk - 1)
        case measure => have := J.out.1; omega
        case rel =>
          obtain ⟨hown5, hg5, hloc5⟩ := H5.out
          obtain ⟨T5, B5, hx, hxs, L5, hn5'⟩ := X.out
          obtain ⟨G6, L6, T6, B6⟩ := B5.app T5 hx (by simp) hxs hown5 hg5 hloc5
          exact ⟨j + 1, n5 + 1, G6, by have := J.out.1; omega, rfl, by have := J.out.2; have := HN4.out; omega, (L5.trans L6).mono (by omega), T6, B6⟩
    · have hge : (nn : Int) ≤ (j : Int) := by omega
      have X := hid (And.intro T2 B2)
      clear T2 B2 L2 hj hn2
      go_wp2_with fail
      go_ret
      exact ⟨_, n2, G2, rfl, LL.out, X.out.1, X.out.2, by have := J.out; omega⟩

theorem Le.swap {G G2 : Gh} {b : Nat} {κ : Kd} (κ' : Kd) (hf : (G.kd b).t = 0) (L : Le 0 (G.put b κ) G2) : Le 0 G (G2.put b κ') := by
  refine ⟨L.k, L.w0, L.lay, L.t0, L.t1, fun i => ?_⟩
  by_cases e : i = b
  · subst e; exact .inl hf
  · have := L.kd i
    rw [Gh.put_ne _ _ e] at this
    rw [Gh.put_ne _ _ e]; exact this

theorem na_write (b : Nat) (w : World) : (nilAhead 256 133 (.pointer (some ⟨b, 0, none⟩)) "Write").run Try.prog w = .ok (some false) w := by kernel_rfl
theorem mt_write (b : Nat) (w : World) : (method 256 133 (.pointer (some ⟨b, 0, none⟩)) "Write").run Try.prog w = .ok (111, .pointer (some ⟨b, 0, none⟩)) w := by kernel_rfl
theorem mt_sum (b : Nat) (w : World) : (method 256 133 (.pointer (some ⟨b, 0, none⟩)) "Sum64").run Try.prog w = .ok (110, .pointer (some ⟨b, 0, none⟩)) w := by kernel_rfl

def DPost (G : Gh) (e : Ending) (w' : World) : Prop := ∃ z G', e = .returned (.int .u64 z) ∧ Le 0 G G' ∧ Typed w' G'

set_option maxHeartbeats 4000000 in
set_option maxRecDepth 100000 in
theorem c51 {w G v} (T : Typed w G) (hv : EntOk G v) : Calls Try.prog 51 #[v] w fun e w' => DPost G e w' := by
  have C := hid (c72 w)
  have hf := T.T.fr _ (Nat.le_refl _)
  have L1 : Le 0 G (G.put w.heap.size (kEx (.cells #[.int .u64 14695981039346656037] 132 (0, 0)))) := Le.put _ (by rw [hf])
  have T1 : Typed (w.alloc (.cells #[.int .u64 14695981039346656037] 132)) (G.put w.heap.size (kEx (.cells #[.int .u64 14695981039346656037] 132 (0, 0)))) := ⟨T.T.alloc _ rfl ⟨by simp, by simp, by simp, by simp, by simp⟩, T.A⟩
  have C73 := hid (c73 (w := (w.alloc (.cells #[.int .u64 14695981039346656037] 132)).drew) ⟨T1.T.drew, T1.A⟩ (hv.le L1))
  have e1 : (G.put w.heap.size (kEx (.cells #[.int .u64 14695981039346656037] 132 (0, 0)))).kd w.heap.size = kEx (.cells #[.int .u64 14695981039346656037] 132 (0, 0)) := Gh.put_at _ _ _
  have HF := hid (And.intro (show (G.kd w.heap.size).t = 0 by rw [hf]) (And.intro e1 T.T.size))
  have A := hid T
  clear hf L1 T1 e1 hv T
  have na := na_write
  have mw := mt_write
  have ms := mt_sum
  go_enter Try.func51, Try.ntmps51
  go_wp2_with fail
  refine C.out.mono ?_
  rintro e w' ⟨rfl, rfl⟩
  go_upto_region 2 with fail
  go_cut [3] (fun s3 wd => s3 = .iface 133 (.pointer (some ⟨w.heap.size, 0, none⟩)) ∧ ∃ G2 z, Le 0 G G2 ∧ Typed wd G2 ∧ G2.kd w.heap.size = kEx (.cells #[.int .u64 z] 132 (0, 0)))
  case first =>
    go_region_with (first | (go_at_call 73; refine C73.out.mono ?_; rintro e w' ⟨v1, n1, G1, rfl, L1, T1, B1, hn1⟩; have X := hid (And.intro L1 (And.intro T1 (And.intro B1 hn1))); have C111 := hid (c111 T1 B1 (by omega) (L1.up HF.out.2.1 (by simp) (by simp) (by simp)) (by rw [L1.w0]; exact HF.out.2.2)); clear L1 T1 B1 hn1) | (go_at_call 111; refine C111.out.mono ?_; rintro e w2 ⟨y, z', rfl, T2⟩; have Y := hid T2; clear T2))
    all_goals
      go_wp2_with fail
      go_meet
      case rel =>
        obtain ⟨L1, T1, B1, hn1⟩ := X.out
        exact ⟨rfl, _, z', Le.swap _ HF.out.1 L1, Y.out, Gh.put_at _ _ _⟩
  case rest =>
    obtain ⟨rfl, G2, z, L2, T2, h2⟩ := hcut
    have C110 := hid (c110 (w := wc) (hb := w.heap.size) (z := z) ((cell_of (T2.T.exact h2 id) _).trans rfl))
    have X := hid (And.intro L2 T2)
    clear L2 T2 h2
    go_wp2_with fail
    refine C110.out.mono ?_
    rintro e w' ⟨rfl, rfl⟩
    go_wp2_with fail
    go_ret
    exact ⟨_, G2, rfl, X.out.1, X.out.2⟩
end Go.Proofs.Qxb6002353a
