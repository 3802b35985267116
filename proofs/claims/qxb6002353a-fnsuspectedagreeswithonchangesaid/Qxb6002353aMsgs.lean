/-
  SEAT b6002353a: helpers for Query, Flush, Receive.
-/
import Derived.Test.Qxb6002353aMsg
import Derived.Laws.Rows
import Derived.Laws.ResultCell
namespace Go.Proofs.Qxb6002353a
open Go.RowKit
set_option linter.unusedVariables false
set_option linter.unusedSimpArgs false

theorem look_pmW {E w G x} (T : TypedE E w G) (hx : x < G.k) (hE : ¬ E (G.lay x).pm) : ∀ W : World, W.heap[(G.lay x).pm]? = w.heap[(G.lay x).pm]? → (Instr.lookup 59 (.map (some (G.lay x).pm)) (.string (nm x)) false).run Try.prog W = .ok (.pointer (some ⟨(G.lay x).sb, 0, none⟩)) W := by
  obtain ⟨o, h1, es, c, rfl, h2, h3, h4, h5⟩ := T.obj (T.pm x hx) (by simp) hE
  obtain ⟨v, ok, k1, k2, k3⟩ := look_any Try.underlying59 zero74 h1 (fun e he => by obtain ⟨s, _, k, _⟩ := h3 e he; rw [k]; trivial) (nm x)
  rcases k3 with ⟨rfl, rfl, k4⟩ | ⟨rfl, e, he, k4, rfl⟩
  · obtain ⟨e, he, k⟩ := h4
    exact absurd k (k4 e he)
  · obtain ⟨s', b, j1, j2, j3⟩ := h3 e he
    rw [k4] at j1
    cases j1
    rw [j2, T.slf x b (by rw [j3]) (by rw [j3]) (by rw [j3])] at k1
    exact k1

theorem AnsOk.shape {G : Gh} {u v : Value} (h : AnsOk G u v) : ∃ a1 a2 a3 a4 a5 a6, u = .slice a1 a2 a3 ∧ v = .slice a4 a5 a6 := by
  rcases h with ⟨rfl, rfl⟩ | ⟨b1, b2, n, c1, c2, rfl, rfl, _⟩
  · exact ⟨_, _, _, _, _, _, rfl, rfl⟩
  · exact ⟨_, _, _, _, _, _, rfl, rfl⟩
theorem info44 : (Try.prog.info? 44).map (·.size) = some 10 := by kernel_rfl
theorem msg_store {w : World} {r : Nat} {y0 y1 y2 y3 y4 y5 y6 y7 y8 y9 : Value} {f} (h : w.heap[r]? = some (.cells #[y0, y1, y2, y3, y4, y5, y6, y7, y8, y9] 44 f)) (v0 v1 v2 v3 v4 v5 v6 v7 v8 v9 : Value) : (((((((((((w).setCell ⟨r, 0, none⟩ v0).setCell ⟨r, 1, none⟩ v1).setCell ⟨r, 2, none⟩ v2).setCell ⟨r, 3, none⟩ v3).setCell ⟨r, 4, none⟩ v4).setCell ⟨r, 5, none⟩ v5).setCell ⟨r, 6, none⟩ v6).setCell ⟨r, 7, none⟩ v7).setCell ⟨r, 8, none⟩ v8).setCell ⟨r, 9, none⟩ v9).heap[r]? = some (.cells #[v0, v1, v2, v3, v4, v5, v6, v7, v8, v9] 44 f) := by
  refine (setCell_at (setCell_at (setCell_at (setCell_at (setCell_at (setCell_at (setCell_at (setCell_at (setCell_at (setCell_at h)))))))))).trans ?_
  simp only [List.setIfInBounds_toArray, List.set_cons_zero, List.set_cons_succ]
theorem msg_typed {E w G} {r : Nat} (T : TypedE E w G) (h : (G.kd r).t = 15) (v0 v1 v2 v3 v4 v5 v6 v7 v8 v9 : Value) : TypedE E (((((((((((w).setCell ⟨r, 0, none⟩ v0).setCell ⟨r, 1, none⟩ v1).setCell ⟨r, 2, none⟩ v2).setCell ⟨r, 3, none⟩ v3).setCell ⟨r, 4, none⟩ v4).setCell ⟨r, 5, none⟩ v5).setCell ⟨r, 6, none⟩ v6).setCell ⟨r, 7, none⟩ v7).setCell ⟨r, 8, none⟩ v8).setCell ⟨r, 9, none⟩ v9) G :=
  TypedE.setE (TypedE.setE (TypedE.setE (TypedE.setE (TypedE.setE (TypedE.setE (TypedE.setE (TypedE.setE (TypedE.setE (TypedE.setE T (.inr h)) (.inr h)) (.inr h)) (.inr h)) (.inr h)) (.inr h)) (.inr h)) (.inr h)) (.inr h)) (.inr h)
theorem unwanted {ops : Array Oper} {tmps : Array Value} {o : Oper} {g d : Nat} {b : Bool} (hg : o.guard = some (g, b)) (hd : (ops[g]?).bind (·.dst) = some d) (ht : tmps[d]? = some (.bool (!b))) : Region.wanted o (yielded ops tmps) = false := by
  unfold Region.wanted yielded
  rw [hg]
  simp only [hd, Option.bind_some, ht]
  cases b <;> rfl
theorem wpAny_takeD {P : Program} {ops : Array Oper} {Q : Exit → Act → World → Prop} {md : Region.Mode} {i : Nat} {oi : Oper} {d : Option Nat} {v : Value} {fuel : Nat} {listed : Array Bool} {a : Act} {w : World} (hi : ops[i]? = some oi) (hd : oi.dst = d)
    (hs : Region.noSelect ops = true) (hf : Region.free md ops listed i = true) (hr : (Region.ready md ops listed).contains i = true)
    (hQ : ∀ c a w, Q (.panic c) (a.put d v) w → Q (.panic c) a w) (hy : Yields P ops oi v a)
    (h : wpAny P md ops Q fuel (listed.setIfInBounds i true) (a.put d v) w) : wpAny P md ops Q (fuel + 1) listed a w := by
  subst hd
  exact wpAny_take hi hs hf hr hQ hy h
theorem wpAny_skipD {P : Program} {ops : Array Oper} {Q : Exit → Act → World → Prop} {md : Region.Mode} {i d g gd : Nat} {b : Bool} {fuel : Nat} {listed : Array Bool} {a : Act} {w : World} (hi : (ops[i]?).map (fun o => (o.dst, o.guard)) = some (some d, some (g, b)))
    (hs : Region.noSelect ops = true) (hf : Region.free md ops listed i = true) (hr : (Region.ready md ops listed).contains i = true)
    (hQ : ∀ c a w, Q (.panic c) (a.put (some d) undef) w → Q (.panic c) a w) (hgd : (ops[g]?).bind (·.dst) = some gd) (ht : a.tmps[gd]? = some (.bool (!b)))
    (h : wpAny P md ops Q fuel (listed.setIfInBounds i true) (a.put (some d) undef) w) : wpAny P md ops Q (fuel + 1) listed a w := by
  obtain ⟨oi, h1, h2⟩ := Option.map_eq_some_iff.1 hi
  simp only [Prod.mk.injEq] at h2
  refine wpAny_takeD h1 h2.1 hs hf hr hQ (.inr ⟨unwanted h2.2 hgd ht, rfl⟩) h

end Go.Proofs.Qxb6002353a
