/-
  SEAT b6002353a: slices.AppendSeq, Collect, Sorted over a map's keys (the kit's worked text GgCollectAtTheDump, turned to this program).
-/
import Derived.Test.Qxb6002353aKeys
import Derived.Maps.AppendAt
import Derived.Shelf.Abstract
namespace Go.Proofs.Qxb6002353a
open Go.RowKit Go.Maps Go.Shelf
set_option linter.unusedVariables false
set_option linter.unusedSimpArgs false

/-- the two parts of the range over a function value, off the loaded program -/
def rfA : Code → Code
  | .seq a b => match rfA a with
    | .skip => rfA b
    | c => c
  | .block _ c => rfA c
  | .rangeFunc _ _ a _ => a
  | _ => .skip
def rfB : Code → Code
  | .seq a b => match rfB a with
    | .skip => rfB b
    | c => c
  | .block _ c => rfB c
  | .rangeFunc _ _ _ b => b
  | _ => .skip
def kc_apRec (f : Func) (fn : FuncId) (sv : Value) (Bs D : Nat) (st : LoopState) (pend : Option Code) : Loop :=
  { state := st, pending := pend, fn, tmps := #[.slice none 0 0, sv, .pointer (some ⟨Bs, 0, none⟩), undef, .slice none 0 0, undef, sv, undef, undef, undef, undef, undef, undef], params := #[7], assign := rfA (f.body.getD .skip), body := rfB (f.body.getD .skip), defers := D }

structure kc_ApAt (w0 : World) (fn : FuncId) (sv : Value) (Bs l D : Nat) (ss : List ByteArray) (W : World) : Prop where
  box : ∃ v, W.heap[Bs]? = some (.cells #[v] 33 (0, 0)) ∧ W.ownsRow w0.heap.size 9 1 v ss.length (ss.map Value.string) ∧ (v = .slice none 0 0 ↔ ss = [])
  L : W.heap[l]? = some (.loop (kc_apRec Try.f83 fn sv Bs D .ready none))
  K : W.heap[D]? = some (.deferred (some []))
  below : Below w0.heap.size w0 W

theorem kc_ownsRow_abides {W W' : World} {row : Option Nat} {base : Nat} {e : TypeId} {size : Nat} {v : Value} {k : Nat} {xs : List Value} (h : W.ownsRow base e size v k xs) (hg : W.grownBy W' row)
    (hrow : ∀ r, row = some r → ∃ o : Obj, W.heap[r]? = some o ∧ o.isWalk = true) : W'.ownsRow base e size v k xs := by
  refine h.kept hg ?_
  rcases h.2 with ⟨rfl, _⟩ | ⟨g, cap, cur, rfl, _, hgb, _⟩
  · exact .inl rfl
  · refine .inr fun e' => ?_
    obtain ⟨o, ho, hw⟩ := hrow g (by simpa [Value.ownBlock] using e'.symm)
    rw [hgb] at ho; cases ho; cases hw

theorem kc_ap_abides (w0 : World) (fn : FuncId) (sv : Value) (Bs l D B : Nat) (hB : w0.heap.size ≤ B) : AbidesFrom B (kc_ApAt w0 fn sv Bs l D) := fun s W W' row h hg hrow => by
  have hrow' : ∀ r, row = some r → ∃ o : Obj, W.heap[r]? = some o ∧ o.isWalk = true := fun r e => (hrow r e).2
  obtain ⟨v, hv, hr, hn⟩ := h.box
  exact ⟨⟨v, (grownBy_keeps hg hrow' hv rfl).trans hv, kc_ownsRow_abides hr hg hrow', hn⟩, (grownBy_keeps hg hrow' h.L rfl).trans h.L, (grownBy_keeps hg hrow' h.K rfl).trans h.K,
    h.below.grown hg h.below.size (fun k e => Nat.le_trans hB (hrow k e).1)⟩

theorem kc_grownBy_putObj (W : World) (l : Nat) (o : Obj) : W.grownBy (W.putObj l o) (some l) :=
  ⟨rfl, rfl, rfl, by simp, fun k _ hk => World.putObj_heap_other (fun e => hk (by rw [e]))⟩
theorem kc_grownBy_setCell0 (W : World) (b : Nat) (v : Value) : W.grownBy (W.setCell ⟨b, 0, none⟩ v) (some b) :=
  ⟨rfl, rfl, rfl, (KeepsWalks.setCell W _ v).size, fun k _ hk => Below.heap_setCell _ _ _ k (fun e => hk (by rw [e]))⟩
theorem kc_ownsRow_ne {W : World} {base : Nat} {e : TypeId} {size : Nat} {v : Value} {k : Nat} {xs : List Value} (h : W.ownsRow base e size v k xs) {j : Nat} {o : Obj} (hj : W.heap[j]? = some o) (hno : ∀ cur, o ≠ .cells cur e (0, 0)) :
    v.ownBlock = none ∨ v.ownBlock ≠ some j := by
  rcases h.2 with ⟨rfl, _⟩ | ⟨g, cap, cur, rfl, _, hgb, _⟩
  · exact .inl rfl
  · refine .inr fun e' => ?_
    have : g = j := by simpa [Value.ownBlock] using e'
    subst this; rw [hgb] at hj; cases hj; exact hno cur rfl
theorem kc_cell_of_box {W : World} {B : Nat} {v : Value} {t : TypeId} (h : W.heap[B]? = some (.cells #[v] t (0, 0))) : W.cell? ⟨B, 0, none⟩ = some v ∧ W.frozen? ⟨B, 0, none⟩ = false := by
  constructor <;> simp [World.cell?, World.frozen?, h]

theorem kc_heap_setCell_box {W : World} {B : Nat} {v : Value} {t : TypeId} (v' : Value) (h : W.heap[B]? = some (.cells #[v] t (0, 0))) : (W.setCell ⟨B, 0, none⟩ v').heap[B]? = some (.cells #[v'] t (0, 0)) := by
  obtain ⟨hlt, hk⟩ := Array.getElem?_eq_some_iff.1 h
  show (W.heap.modify B _)[B]? = _
  rw [Array.getElem?_eq_getElem (by rw [Array.size_modify]; exact hlt), Array.getElem_modify_self, hk]
  rfl
theorem kc_ownsRow_not_walk {W : World} {base : Nat} {e : TypeId} {size : Nat} {v : Value} {k : Nat} {xs : List Value} (h : W.ownsRow base e size v k xs) : ∀ (j : Nat) (o : Obj), v.ownBlock = some j → W.heap[j]? = some o → o.isWalk = false := by
  intro j o hj ho
  rcases h.2 with ⟨rfl, _⟩ | ⟨g, cap, cur, rfl, _, hgb, _⟩
  · simp [Value.ownBlock] at hj
  · have : g = j := by simpa [Value.ownBlock] using hj
    subst this; rw [hgb] at ho; cases ho; rfl


set_option maxRecDepth 100000 in
set_option maxHeartbeats 2000000 in
theorem kc_apYield (F : Fence) (m : Nat) (w0 : World) (fn : FuncId) (hfn : F.fn fn) (sv : Value) (Bs l D : Nat) (hBl : Bs ≠ l) (hDl : D ≠ l) (hDB : D ≠ Bs) (h0B : w0.heap.size ≤ Bs) (h0l : w0.heap.size ≤ l)
    (N : Nat) (hN : N ≤ maxLen) (hNb : N * 16 ≤ 140737488355328) (ss : List ByteArray) (x : ByteArray) (W : World) (h : kc_ApAt w0 fn sv Bs l D ss W) (hlen : ss.length < N) :
    YieldAt F m Try.prog l #[.string x] W fun e W' => e = .returned (.bool true) ∧ kc_ApAt w0 fn sv Bs l D (ss ++ [x]) W' ∧ KeepsWalks W W' := by
  obtain ⟨i0, hi, hz0, hz1, hz2⟩ := info_parts info9
  obtain ⟨v, hv, hrow, _⟩ := h.box
  refine ⟨fn, #[.slice none 0 0, sv, .pointer (some ⟨Bs, 0, none⟩), undef, .slice none 0 0, undef, sv, (.string x), undef, undef, undef, undef, undef], (rfA (Try.f83.body.getD .skip)), (rfB (Try.f83.body.getD .skip)), by simpa [kc_apRec] using run_yield (P := Try.prog) (args := #[.string x]) h.L rfl, roundIn_of_wpIn hfn ?_⟩
  have hl : l < W.heap.size := (Array.getElem?_eq_some_iff.1 h.L).1
  have hbr := run_beginRound (P := Try.prog) h.L rfl
  obtain ⟨W2, hW2⟩ : ∃ W2, W.putObj l (.loop { kc_apRec Try.f83 fn sv Bs D .ready none with state := .busy }) = W2 := ⟨_, rfl⟩
  rw [hW2] at hbr
  have hg2 : W.grownBy W2 (some l) := by rw [← hW2]; exact kc_grownBy_putObj _ _ _
  have hk2 : KeepsWalks W W2 := by rw [← hW2]; exact KeepsWalks.putObj _ h.L rfl
  have hv2 : W2.heap[Bs]? = some (.cells #[v] 33 (0, 0)) := by rw [← hW2]; exact (World.putObj_heap_other hBl).trans hv
  have hK2 : W2.heap[D]? = some (.deferred (some [])) := by rw [← hW2]; exact (World.putObj_heap_other hDl).trans h.K
  have hL2 : W2.heap[l]? = some (.loop { kc_apRec Try.f83 fn sv Bs D .ready none with state := .busy }) := by rw [← hW2]; exact World.putObj_heap_same hl
  have hrow2 : W2.ownsRow w0.heap.size 9 1 v ss.length (ss.map Value.string) := hrow.kept hg2 (kc_ownsRow_ne hrow h.L (fun cur e => by cases e))
  have hb2 : Below w0.heap.size w0 W2 := h.below.grown hg2 h.below.size (fun k e => by cases e; exact h0l)
  obtain ⟨hc2, hf2⟩ := kc_cell_of_box hv2
  have hBlt : Bs < W2.heap.size := (Array.getElem?_eq_some_iff.1 hv2).1
  have hl2 : l < W2.heap.size := (Array.getElem?_eq_some_iff.1 hL2).1
  have hDlt : D < W2.heap.size := (Array.getElem?_eq_some_iff.1 hK2).1
  have ne_of : ∀ {j : Nat} {o : Obj}, W2.heap[j]? = some o → (∀ cur, o ≠ .cells cur 9 (0, 0)) → some j ≠ v.ownBlock := fun hj hno => by
    rcases kc_ownsRow_ne hrow2 hj hno with e | e
    · rw [e]; simp
    · exact fun e' => e e'.symm
  clear hW2
  have eA : (rfA (Try.f83.body.getD .skip)) = (rfA (Try.f83.body.getD .skip)) := rfl
  conv at eA => rhs; whnf
  rw [eA]
  clear eA
  gi_wp2_with (rw [Oper.semAt_eq _ _ _ (fun c h => by cases h)]; go_simp; try go_bits)
  have eB : (rfB (Try.f83.body.getD .skip)) = (rfB (Try.f83.body.getD .skip)) := rfl
  conv at eB => rhs; whnf
  rw [eB]
  clear eB
  gi_wp2_with (first
    | (gi_at_builtin; refine wpListIn_append_own _ rfl _ _ 33 rfl w0.heap.size 9 i0 (.string ⟨#[]⟩) 1 16 Try.underlying33 hi hz0 hz1 hz2 rfl (by decide) _ _ _ rfl (hrow2.alloc _) ⟨W2.heap.size, 0, none⟩ 1 1 [(.string x)] rfl rfl (cell_one_new _ _ _) (by simp [Value.oneCell']) (by omega) (by omega) (by have := hb2.size; simp; omega) ?_; intro v' w3 hown' hg3 hnil3
       have hv3 : w3.heap[Bs]? = some (.cells #[v] 33 (0, 0)) := (hg3.block Bs (by simp; omega) (ne_of hv2 (fun cur e => by cases e))).trans ((Below.heap_alloc _ _ Bs hBlt).trans hv2)
       obtain ⟨hc3, hf3⟩ := kc_cell_of_box hv3
       obtain ⟨g', cap', cur', rfl, hbase', hgb', hr1, hr2, hr3, hr4⟩ : ∃ g' cap' cur', v' = .slice (some ⟨g', 0, none⟩) (ss.length + 1) cap' ∧ w0.heap.size ≤ g' ∧ w3.heap[g']? = some (.cells cur' 9 (0, 0)) ∧ ss.length + 1 ≤ cap' ∧ cap' ≤ maxLen ∧ cur'.size = cap' * 1 ∧ cur'.toList.take ((ss.length + 1) * 1) = ss.map Value.string ++ [(.string x)] := by
         rcases hown'.2 with ⟨_, h0⟩ | h'
         · exact absurd h0 (by omega)
         · exact h'
       go_frame)
    | (rw [Oper.semAt_eq _ _ _ (fun c h => by cases h)]; go_simp; try go_bits))
  have hg3' : (W2.alloc (.cells #[.string x] 9)).grownBy w3 v.ownBlock := hg3
  have hL3 : w3.heap[l]? = some (.loop { kc_apRec Try.f83 fn sv Bs D .ready none with state := .busy }) := (hg3'.block l (by simp; omega) (ne_of hL2 (fun cur e => by cases e))).trans ((Below.heap_alloc _ _ l hl2).trans hL2)
  have hK3 : w3.heap[D]? = some (.deferred (some [])) := (hg3'.block D (by simp; omega) (ne_of hK2 (fun cur e => by cases e))).trans ((Below.heap_alloc _ _ D hDlt).trans hK2)
  obtain ⟨w4, hw4⟩ : ∃ w4, w3.setCell ⟨Bs, 0, none⟩ (.slice (some ⟨g', 0, none⟩) (ss.length + 1) cap') = w4 := ⟨_, rfl⟩
  rw [hw4]
  have hg4 : w3.grownBy w4 (some Bs) := by rw [← hw4]; exact kc_grownBy_setCell0 _ _ _
  have hv4 : w4.heap[Bs]? = some (.cells #[.slice (some ⟨g', 0, none⟩) (ss.length + 1) cap'] 33 (0, 0)) := by rw [← hw4]; exact kc_heap_setCell_box _ hv3
  have hL4 : w4.heap[l]? = some (.loop { kc_apRec Try.f83 fn sv Bs D .ready none with state := .busy }) := (hg4.block l (Array.getElem?_eq_some_iff.1 hL3).1 (fun e => hBl (by cases e; rfl))).trans hL3
  have hK4 : w4.heap[D]? = some (.deferred (some [])) := (hg4.block D (Array.getElem?_eq_some_iff.1 hK3).1 (fun e => hDB (by cases e; rfl))).trans hK3
  have hrow4 := hown'.kept hg4 (kc_ownsRow_ne hown' hv3 (fun cur e => by cases e))
  have hl4 : l < w4.heap.size := (Array.getElem?_eq_some_iff.1 hL4).1
  have hb3 : Below w0.heap.size w0 w3 := (hb2.alloc hb2.size _).grown hg3' (by have := hb2.size; simp; omega) (fun k e => (hrow2.lt k e).1)
  have hb4 : Below w0.heap.size w0 w4 := hb3.grown hg4 hb3.size (fun k e => by cases e; exact h0B)
  have hk4 : KeepsWalks W w4 := ((hk2.trans (KeepsWalks.alloc _ _)).trans (KeepsWalks.of_grownBy hg3' (kc_ownsRow_not_walk (hrow2.alloc _)))).trans (by rw [← hw4]; exact KeepsWalks.setCell _ _ _)
  clear hw4
  refine ⟨_, _, run_endRound none hL4, rfl, ⟨⟨_, (World.putObj_heap_other hBl).trans hv4, ?_, by simp⟩, World.putObj_heap_same hl4, (World.putObj_heap_other hDl).trans hK4, hb4.grown (kc_grownBy_putObj _ _ _) hb4.size (fun k e => by cases e; exact h0l)⟩, hk4.trans (KeepsWalks.putObj _ hL4 rfl)⟩
  have := hrow4.kept (kc_grownBy_putObj w4 l (.loop { { kc_apRec Try.f83 fn sv Bs D .ready none with state := .busy } with state := if (none : Option Code).isNone then .ready else .done, pending := none })) (kc_ownsRow_ne hrow4 hL4 (fun cur e => by cases e))
  simpa using this


set_option maxRecDepth 100000 in
set_option maxHeartbeats 2000000 in
theorem kc_appendSeq_in (F : Fence) (n : Nat) (h11 : F.fn 83) (hro : F.round = none) (hn : 2 ≤ n) (g : Nat) (lb : Array Value) (hFg : F.fn g) (eg : ∀ args w, (callFunc g args).run Try.prog w = .ok (.enter g args) w)
    (S : List ByteArray → Prop) (N : Nat) (hN : N ≤ maxLen) (hNb : N * 16 ≤ 140737488355328) (w : World) (hseq : SeqGives F (n - 1) Try.prog g lb Value.string S N w) :
    CallsIn F n Try.prog 83 #[.slice none 0 0, .func (.func g) #[] lb] w fun e w' => ∃ (v : Value) (ss : List ByteArray), e = .returned v ∧ S ss ∧ w'.ownsRow w.heap.size 9 1 v ss.length (ss.map Value.string) ∧ (v = .slice none 0 0 ↔ ss = []) ∧ Below w.heap.size w w' := by
  have h1 : 1 ≤ n := by omega
  refine callsIn_of_wp_marks Try.func83 rfl h11 ?_ hro
  simp only [Try.ntmps83, List.size_toArray, List.length_cons, List.length_nil, Nat.reduceAdd, Nat.reduceSub, Array.replicate_succ, Array.replicate_zero, List.push_toArray, List.append_toArray, List.nil_append, List.cons_append]
  gi_wp2
  refine wpIn_rangeFunc ?_
  intro fn hfn
  rw [hro]
  obtain ⟨W0, hW0⟩ : ∃ W0, w.alloc (.cells #[.slice none 0 0] 33) = W0 := ⟨_, rfl⟩
  have hs0 : W0.heap.size = w.heap.size + 1 := by rw [← hW0]; simp
  have hv0 : W0.heap[w.heap.size]? = some (.cells #[.slice none 0 0] 33 (0, 0)) := by rw [← hW0]; exact World.alloc_heap_new w _
  have hb0 : Below w.heap.size w W0 := by rw [← hW0]; exact (Below.refl _ w).alloc (Nat.le_refl _) _
  rw [hW0]
  obtain ⟨W1, hW1⟩ : ∃ W1, (W0.alloc (.deferred (some []))).alloc (.loop (kc_apRec Try.f83 fn (.func (.func g) #[] lb) w.heap.size W0.heap.size .ready none)) = W1 := ⟨_, rfl⟩
  have hold : ∀ k, k < W0.heap.size → W1.heap[k]? = W0.heap[k]? := fun k hk => by
    rw [← hW1]; exact (Below.heap_alloc _ _ k (by simp; omega)).trans (Below.heap_alloc _ _ k hk)
  have hb1 : Below w.heap.size w W1 := by rw [← hW1]; exact (hb0.alloc hb0.size _).alloc (by have := hb0.size; simp; omega) _
  have hs1 : W1.heap.size = W0.heap.size + 2 := by rw [← hW1]; simp
  have hM : kc_ApAt w fn (.func (.func g) #[] lb) w.heap.size (W0.heap.size + 1) W0.heap.size [] W1 :=
    ⟨⟨_, (hold w.heap.size (by omega)).trans hv0, ⟨rfl, .inl ⟨rfl, rfl⟩⟩, by simp⟩,
     by rw [← hW1]; have := World.alloc_heap_new (W0.alloc (.deferred (some []))) (.loop (kc_apRec Try.f83 fn (.func (.func g) #[] lb) w.heap.size W0.heap.size .ready none)); rwa [World.size_alloc] at this,
     by rw [← hW1]; exact (Below.heap_alloc _ _ _ (by simp)).trans (World.alloc_heap_new W0 _), hb1⟩
  refine ⟨W0.heap.size + 1, [{ target := .collected W0.heap.size, args := #[] }], W1, { target := .fn (.func g) lb, args := #[.func (.yield (W0.heap.size + 1)) #[] #[]] }, W1, g,
    #[.func (.yield (W0.heap.size + 1)) #[] #[]] ++ lb, W1, ?_, ?_, ?_, ?_, fun _ => h1, ?_⟩
  · rw [← hW1]; exact run_enterLoop_outer _ _ _ _ _
  · simp [resolve, go_sem]
  · intro f' hf'; simp [Target.leads] at hf'; subst hf'; exact hFg
  · simp [invoke, go_sem, eg]
  · refine (hseq (W0.heap.size + 1) (kc_ApAt w fn (.func (.func g) #[] lb) w.heap.size (W0.heap.size + 1) W0.heap.size) W1 hb1 (kc_ap_abides _ _ _ _ _ _ _ hb1.size)
      (fun pre x W hJ hl => kc_apYield F (n - 1 - 1) w fn hfn _ w.heap.size (W0.heap.size + 1) W0.heap.size (by omega) (by omega) (by omega) (Nat.le_refl _) (by omega) N hN hNb pre x W hJ hl) hM).mono ?_
    rintro e W2 ⟨⟨v0, rfl⟩, ss, hS, h2⟩
    obtain ⟨v, hv, hrow, hnil⟩ := h2.box
    have hend := run_endLoop (P := Try.prog) h2.L (by simp [kc_apRec])
    obtain ⟨W3, hW3⟩ : ∃ W3, W2.putObj (W0.heap.size + 1) (.loop { kc_apRec Try.f83 fn (.func (.func g) #[] lb) w.heap.size W0.heap.size .ready none with state := .exhausted }) = W3 := ⟨_, rfl⟩
    rw [hW3] at hend
    have hg3 : W2.grownBy W3 (some (W0.heap.size + 1)) := by rw [← hW3]; exact kc_grownBy_putObj _ _ _
    have hv3 : W3.heap[w.heap.size]? = some (.cells #[v] 33 (0, 0)) := by rw [← hW3]; exact (World.putObj_heap_other (by omega)).trans hv
    have hK3 : W3.heap[W0.heap.size]? = some (.deferred (some [])) := by rw [← hW3]; exact (World.putObj_heap_other (by omega)).trans h2.K
    have hrow3 := hrow.kept hg3 (kc_ownsRow_ne hrow h2.L (fun cur e => by cases e))
    have hb3 : Below w.heap.size w W3 := h2.below.grown hg3 h2.below.size (fun k e => by cases e; omega)
    obtain ⟨hc3, hf3⟩ := kc_cell_of_box hv3
    clear hW3
    refine ⟨none, W3, hend, ?_⟩
    gi_wp2
    rw [← hs0]
    refine ⟨by simp, .inl ⟨_, _, rfl, run_takeDeferred hK3, ?_⟩⟩
    exact ⟨_, results_tmp rfl _ _ _, v, ss, rfl, hS, hrow3.kept (kc_grownBy_putObj _ _ _) (kc_ownsRow_ne hrow3 hK3 (fun cur e => by cases e)), hnil, hb3.grown (kc_grownBy_putObj _ _ _) hb3.size (fun k e => by cases e; omega)⟩


set_option maxHeartbeats 1000000 in
theorem kc_collect_in (F : Fence) (n : Nat) (h8 : F.fn 68) (h11 : F.fn 83) (hro : F.round = none) (hn : 3 ≤ n) (g : Nat) (lb : Array Value) (hFg : F.fn g) (eg : ∀ args w, (callFunc g args).run Try.prog w = .ok (.enter g args) w)
    (S : List ByteArray → Prop) (N : Nat) (hN : N ≤ maxLen) (hNb : N * 16 ≤ 140737488355328) (w : World) (hseq : SeqGives F (n - 1 - 1) Try.prog g lb Value.string S N w) :
    CallsIn F n Try.prog 68 #[.func (.func g) #[] lb] w fun e w' => ∃ (v : Value) (ss : List ByteArray), e = .returned v ∧ S ss ∧ w'.ownsRow w.heap.size 9 1 v ss.length (ss.map Value.string) ∧ (v = .slice none 0 0 ↔ ss = []) ∧ Below w.heap.size w w' := by
  have h1 : 1 ≤ n := by omega
  refine callsIn_of_wp Try.func68 rfl h8 ?_ hro
  simp only [Try.ntmps68, List.size_toArray, List.length_cons, List.length_nil, Nat.reduceAdd, Nat.reduceSub, Array.replicate_succ, Array.replicate_zero, List.push_toArray, List.append_toArray, List.nil_append, List.cons_append]
  gi_wp2_with (gi_at_call 83; refine (kc_appendSeq_in F (n - 1) h11 hro (by omega) g lb hFg eg S N hN hNb _ hseq).mono ?_; rintro e w' ⟨v, ss, rfl, hS, hrow, hnil, hb⟩)
  go_ret
  exact ⟨v, ss, rfl, hS, hrow, hnil, hb⟩


end Go.Proofs.Qxb6002353a
