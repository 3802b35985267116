/-
  compact (function 36) and ZZCompact (function 26): the contract.
-/
import Derived.Test.Qxb6601687aCptC
namespace Go.Proofs.Qxb6601687a
open Go.RowKit
set_option linter.unusedVariables false
set_option linter.unusedSimpArgs false

/-- all but the row at cb as it was -/
structure Fc (cb : Nat) (w w' : World) : Prop where
  os : w'.os = w.os
  tape : w'.tape = w.tape
  output : w'.output = w.output
  size : w.heap.size ≤ w'.heap.size
  block : ∀ k, k < w.heap.size → k ≠ cb → w'.heap[k]? = w.heap[k]?

structure I36 (w : World) (la ca oa : Option Addr) (lb cb ob n m : Nat) (l : Nat → Int) (c o : Nat → Bool) : Prop where
  n_ : n ≤ 4096
  m_ : m ≤ 4096
  la_ : 0 < n → la = some ⟨lb, 0, none⟩
  ca_ : 0 < n → ca = some ⟨cb, 0, none⟩
  lines : ∀ i, i < n → w.cell? ⟨lb, i, none⟩ = some (.int .i32 (l i))
  ll : 0 < n → lb < w.heap.size
  cl : 0 < n → cb < w.heap.size
  lc : 0 < n → lb ≠ cb
  dv : 0 < n → Dv6 w cb n c
  bs : Bs w oa ob 0 m o
  F : Cm.un c n = Cm.un o m

theorem results0 {fn : Func} (h : fn.results = #[]) (tmps : Array Value) (P : Program) (w : World) : (results fn tmps).run P w = .ok (.tuple #[]) w := by
  simp [results, h]

theorem Ls_get {o : Nat → Bool} {m k : Nat} (h : k ≤ Cm.un o m) : (Ls o m ++ [.bool (Cm.sl o m (Cm.un o m))])[k]? = some (.bool (Cm.sl o m k)) := by
  by_cases x : k < Cm.un o m
  · rw [List.getElem?_append_left (by rw [Ls_len]; exact x)]
    simp [Ls, x]
  · obtain rfl : k = Cm.un o m := by omega
    rw [List.getElem?_append_right (by rw [Ls_len]; exact Nat.le_refl _)]
    simp [Ls_len]

theorem own_some {w : World} {base n : Nat} {v : Value} {xs : List Value} (h : w.ownsRow base 4 1 v n xs) (hn : 0 < n) : ∃ g cap, v = .slice (some ⟨g, 0, none⟩) n cap ∧ base ≤ g ∧ g < w.heap.size ∧ ∀ k u, xs[k]? = some u → w.cell? ⟨g, k, none⟩ = some u := by
  have hh := h
  rcases h.2 with ⟨_, h0⟩ | ⟨g, cap, cur, rfl, hb, hg, h1, h2, h3, h4⟩
  · omega
  · refine ⟨g, cap, rfl, hb, (hh.lt g rfl).2, fun k u hk => ?_⟩
    have := hh.cells (g := g) rfl k u hk
    rwa [addr_add, Nat.zero_add] at this

set_option maxRecDepth 100000 in
theorem compact_any (la ca oa : Option Addr) (lb cb ob n m : Nat) (l : Nat → Int) (c o : Nat → Bool) (w : World) (h : I36 w la ca oa lb cb ob n m l c o) :
    Calls Try.prog 36 #[.slice la n n, .slice ca n n, .slice oa m m] w fun e w' => e = .returned (.tuple #[]) ∧ Fc cb w w' ∧ ∃ c', (0 < n → Dv6 w' cb n c') ∧ Cm.Good n l (Cm.sl o m) c' n := by
  refine calls_of_wp (c := sub2 [] (bodyOf Try.f36)) Try.func36 (by kernel_rfl) ?_
  rw [j0]
  refine wp_seq ?_
  have mem0 : W36 { la := la, ca := ca, oa := oa, n := n, m := m, ob := ob, B0 := w.heap.size, o := o } w w (.slice none 0 0) [] :=
    ⟨rfl, h.m_, h.n_, Below.refl _ _, World.ownsRow_nil _ _ _ _, h.bs⟩
  refine t0 (Y := { la := la, ca := ca, oa := oa, n := n, m := m, ob := ob, B0 := w.heap.size, o := o }) ⟨rfl, by rw [Try.ntmps36]; exact start_size _ _ (by show 3 ≤ 171; omega), start_get _ _ 0 _ rfl, start_get _ _ 1 _ rfl, start_get _ _ 2 _ rfl⟩ mem0 ?_
  intro a P h6
  show Code.wp Try.prog (sub2 [true] (bodyOf Try.f36)) _ a w
  rw [j1]
  refine wp_seq ?_
  refine t1 P h6 mem0 ?_
  clear P h6 a
  intro a P h6 h7
  show Code.wp Try.prog (sub2 [true, true] (bodyOf Try.f36)) _ a w
  rw [j2]
  refine wp_seq ?_
  rw [j2l]
  refine wp_seq ?_
  refine t2 P h6 h7 mem0 ?_
  clear P h6 h7 a
  intro a P h6 h7 h16 h17 h18
  show Code.wp Try.prog (sub2 [true, true, false, true] (bodyOf Try.f36)) _ a w
  rw [j2b]
  refine wp_block ?_
  rw [j2o]
  refine wp_loop_rounds (m + 1) ?_
  refine slots1 (Y := { la := la, ca := ca, oa := oa, n := n, m := m, ob := ob, B0 := w.heap.size, o := o }) m a w (.slice none 0 0) 0 ⟨P, h6, h7, h16, h17, h18⟩ mem0 (Nat.zero_add _) ?_
  clear P h6 h7 h16 h17 h18 a
  intro a w1 v1 P h6 h7 mem1
  show Code.wp Try.prog (sub2 [true, true, true] (bodyOf Try.f36)) _ a w1
  rw [j3]
  refine wp_seq ?_
  have hun := Cm.un_le o m
  have hm := h.m_
  refine s10 P h6 h7 mem1 (by rw [Ls_len]; show Cm.un o m ≤ 4096; omega) ?_
  clear P h6 h7 a mem1 w1 v1
  intro a w2 v2 P h6 mem2
  obtain ⟨sb, sc, rfl, s1, s2, s3⟩ := own_some mem2.own (by simp)
  have slen : (Ls o m ++ [Value.bool (Cm.sl o m (Cm.un o m))]).length = Cm.un c n + 1 := by simp [Ls_len, h.F]
  have bel := mem2.bel
  show Code.wp Try.prog (sub2 [true, true, true, true] (bodyOf Try.f36)) _ a w2
  rw [j4]
  refine wp_seq ?_
  refine t11 P h6 mem2 ?_
  clear P h6 a
  intro a P h6 h10
  show Code.wp Try.prog (sub2 [true, true, true, true, true] (bodyOf Try.f36)) _ a w2
  rw [j5]
  refine wp_seq ?_
  refine t12 P h6 h10 mem2 ?_
  clear P h6 h10 a
  intro a P h6 h10 h11
  show Code.wp Try.prog (sub2 [true, true, true, true, true, true] (bodyOf Try.f36)) _ a w2
  rw [j6]
  refine wp_seq ?_
  refine t13 P h6 h10 h11 mem2 ?_
  clear P h6 h10 h11 a
  intro a P h6 h10 h11 h12
  have s1' : w.heap.size ≤ sb := s1
  have sbne : 0 < n → sb ≠ cb := fun h0 => by have := h.cl h0; omega
  have mem : M36 { la := la, ca := ca, lb := lb, cb := cb, sb := sb, sc := sc, E := { n := n, F := Cm.un c n, l := l, S := Cm.sl o m } } w2 w2 c :=
    ⟨⟨h.la_, h.ca_, h.n_, (by show Cm.un c n ≤ 4096; rw [h.F]; omega), fun i hi => by rw [bel.cell (p := ⟨lb, i, none⟩) (h.ll (Nat.lt_of_le_of_lt (Nat.zero_le _) hi))]; exact h.lines i hi,
      fun h0 => Nat.lt_of_lt_of_le (h.ll h0) bel.size, h.lc, fun k hk => s3 k _ (Ls_get (by have hk2 : k ≤ Cm.un c n := hk; rw [h.F] at hk2; exact hk2)), s2, sbne⟩,
     fun h0 => by obtain ⟨arr, d1, d2, d3⟩ := h.dv h0; exact ⟨arr, (bel.block cb (h.cl h0)).trans d1, d2, d3⟩, rfl, rfl, rfl, Nat.le_refl _, fun _ _ _ => rfl⟩
  have F : F36 { la := la, ca := ca, lb := lb, cb := cb, sb := sb, sc := sc, E := { n := n, F := Cm.un c n, l := l, S := Cm.sl o m } } a :=
    ⟨P.d, P.s, P.g0, P.g1, by rw [h6, slen], h10⟩
  show Code.wp Try.prog (sub2 [true, true, true, true, true, true, true] (bodyOf Try.f36)) _ a w2
  rw [j7]
  refine wp_block ?_
  rw [j8]
  refine wp_loop_rounds (Cm.left { n := n, F := Cm.un c n, l := l, S := Cm.sl o m } c 0 + 1) ?_
  refine outer2 (X := { la := la, ca := ca, lb := lb, cb := cb, sb := sb, sc := sc, E := { n := n, F := Cm.un c n, l := l, S := Cm.sl o m } }) _ a w2 c 0 ⟨F, h11, h12⟩ mem (Cm.Out.start rfl) (Nat.le_refl _) ?_
  intro a' w' c' F' mem' good' tot'
  show bodyPost Try.prog Try.f36 (fun e w' => e = .returned (.tuple #[]) ∧ Fc cb w w' ∧ ∃ c', (0 < n → Dv6 w' cb n c') ∧ Cm.Good n l (Cm.sl o m) c' n) .normal a' w'
  refine bodyPost_end (v := .tuple #[]) (results0 rfl _ _ _) F'.d ⟨rfl, ⟨mem'.os.trans bel.os, mem'.tape.trans bel.tape, mem'.output.trans bel.output, Nat.le_trans bel.size mem'.size, fun k h1 h2 => (mem'.block k (Nat.lt_of_lt_of_le h1 bel.size) h2).trans (bel.block k h1)⟩, c', mem'.dv, good'⟩

set_option maxHeartbeats 400000 in
theorem zz26 (la ca oa : Option Addr) (lb cb ob n m : Nat) (l : Nat → Int) (c o : Nat → Bool) (w : World) (h : I36 w la ca oa lb cb ob n m l c o) :
    Calls Try.prog 26 #[.slice la n n, .slice ca n n, .slice oa m m] w fun e w' => e = .returned (.tuple #[]) ∧ Fc cb w w' ∧ ∃ c', (0 < n → Dv6 w' cb n c') ∧ Cm.Good n l (Cm.sl o m) c' n := by
  have H : Hid (I36 w la ca oa lb cb ob n m l c o) := h
  clear h
  go_enter Try.func26, Try.ntmps26
  go_wp2_with fail
  refine (compact_any la ca oa lb cb ob n m l c o w H.out).mono ?_
  rintro e w' ⟨rfl, h2⟩
  have H2 : Hid (Fc cb w w' ∧ ∃ c', (0 < n → Dv6 w' cb n c') ∧ Cm.Good n l (Cm.sl o m) c' n) := h2
  clear h2
  go_wp2_with fail
  exact bodyPost_end (v := .tuple #[]) (results0 rfl _ _ _) rfl ⟨rfl, H2.out⟩
end Go.Proofs.Qxb6601687a
