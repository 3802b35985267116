/-
  SEAT b6002353a: a message's block; a round begun.
-/
import Derived.Test.Qxb6002353aAnswer
import Derived.Test.Qxb6002353aPause
namespace Go.Proofs.Qxb6002353a
open Go.RowKit
set_option linter.unusedVariables false
set_option linter.unusedSimpArgs false

theorem TypedE.m3 {E w G b} {z : Int} (T : TypedE E w G) (hb : G.kd b = kMsg) : TypedE E (w.setCell ⟨b, 3, none⟩ (.int .u64 z)) G := by
  refine T.set fun _ c e f h => ?_
  rw [hb] at h ⊢
  obtain ⟨v, h1, h2⟩ := h
  cases h1
  exact ⟨{ v with wa := z }, rfl, h2.fr, h2.ps, h2.an⟩
theorem TypedE.m4 {E w G b} {z : Bool} (T : TypedE E w G) (hb : G.kd b = kMsg) : TypedE E (w.setCell ⟨b, 4, none⟩ (.bool z)) G := by
  refine T.set fun _ c e f h => ?_
  rw [hb] at h ⊢
  obtain ⟨v, h1, h2⟩ := h
  cases h1
  exact ⟨{ v with su := z }, rfl, h2.fr, h2.ps, h2.an⟩
theorem TypedE.m5 {E w G b} {z : Int} (T : TypedE E w G) (hb : G.kd b = kMsg) : TypedE E (w.setCell ⟨b, 5, none⟩ (.int .u64 z)) G := by
  refine T.set fun _ c e f h => ?_
  rw [hb] at h ⊢
  obtain ⟨v, h1, h2⟩ := h
  cases h1
  exact ⟨{ v with ho := z }, rfl, h2.fr, h2.ps, h2.an⟩
theorem TypedE.m6 {E w G b} {z : Int} (T : TypedE E w G) (hb : G.kd b = kMsg) : TypedE E (w.setCell ⟨b, 6, none⟩ (.int .u64 z)) G := by
  refine T.set fun _ c e f h => ?_
  rw [hb] at h ⊢
  obtain ⟨v, h1, h2⟩ := h
  cases h1
  exact ⟨{ v with dg := z }, rfl, h2.fr, h2.ps, h2.an⟩
theorem TypedE.m7 {E w G b} {z : Value} (T : TypedE E w G) (hb : G.kd b = kMsg) (hz : EntOk G z) : TypedE E (w.setCell ⟨b, 7, none⟩ z) G := by
  refine T.set fun _ c e f h => ?_
  rw [hb] at h ⊢
  obtain ⟨v, h1, h2⟩ := h
  cases h1
  exact ⟨{ v with ps := z }, rfl, h2.fr, hz, h2.an⟩

/-- the round of node x is z from now on -/
def Gh.next (G : Gh) (x : Nat) (z : Int) : Gh := { G with rd := fun y => if y = x then z else G.rd y }
theorem Le.next (G : Gh) (x : Nat) (z : Int) : Le 0 G (G.next x z) := ⟨rfl, rfl, rfl, Nat.le_refl _, Nat.le_refl _, fun _ => .inr (.inr (.inl rfl))⟩
theorem round_up {w G x} {z : Int} (T : Typed w G) (hx : x < G.k) : Typed (((w.setCell ⟨(G.lay x).nb, 12, none⟩ (.int .u64 z)).drew).setCell ⟨(G.lay x).sb, 3, none⟩ (.int .u64 z)) (G.next x z) := by
  obtain ⟨o, ho, v, rfl, vo⟩ := T.T.obj (T.T.nb x hx) (by simp) id
  obtain ⟨o2, ho2, p, rfl, pi, pa⟩ := T.T.obj (T.T.sb x hx) (by simp) id
  have ne : (G.lay x).nb ≠ (G.lay x).sb := kd_ne (T.T.nb x hx) (T.T.sb x hx) (by simp)
  have T1 : TypedE (fun b => b = (G.lay x).nb ∨ b = (G.lay x).sb) w G := T.T.weaken (fun _ h => h.elim)
  have T2 : TypedE (fun b => b = (G.lay x).nb ∨ b = (G.lay x).sb) (((w.setCell ⟨(G.lay x).nb, 12, none⟩ (.int .u64 z)).drew).setCell ⟨(G.lay x).sb, 3, none⟩ (.int .u64 z)) G := (T1.setE (.inl (.inl rfl))).drew.setE (.inl (.inr rfl))
  have T3 := T2.to_rd x z (.inl rfl) (.inr rfl)
  have e1 : (((w.setCell ⟨(G.lay x).nb, 12, none⟩ (.int .u64 z)).drew).setCell ⟨(G.lay x).sb, 3, none⟩ (.int .u64 z)).heap[(G.lay x).nb]? = some (.cells ((v.arr G x).setIfInBounds 12 (.int .u64 z)) 64 (0, 0)) := by
    rw [setCell_other ne]; exact setCell_at ho
  have e2 : (((w.setCell ⟨(G.lay x).nb, 12, none⟩ (.int .u64 z)).drew).setCell ⟨(G.lay x).sb, 3, none⟩ (.int .u64 z)).heap[(G.lay x).sb]? = some (.cells ((p.arr (nm x)).setIfInBounds 3 (.int .u64 z)) 73 (0, 0)) := by
    refine setCell_at ?_
    show (w.setCell ⟨(G.lay x).nb, 12, none⟩ (.int .u64 z)).heap[(G.lay x).sb]? = _
    rw [setCell_other ne.symm]; exact ho2
  refine ⟨T3.shut ?_, fun y hy s => T.A y hy s⟩
  rintro b o (rfl | rfl) - h
  · rw [e1] at h
    cases h
    show KOk (G.next x z) (G.kd _) _
    rw [T.T.nb x hx]
    refine ⟨v, ?_, vo.by_, vo.ca, vo.ak0, vo.ak1⟩
    have : (G.next x z).rd x = z := if_pos rfl
    unfold NV.arr
    rw [this]
    rfl
  · rw [e2] at h
    cases h
    show KOk (G.next x z) (G.kd _) _
    rw [T.T.sb x hx]
    exact ⟨{ p with an := z }, rfl, pi, fun _ => (if_pos rfl).symm⟩

/-- the zero message -/
def zMsg : Array Value := #[.int .u8 0, .string ⟨#[]⟩, .int .u64 0, .int .u64 0, .bool false, .int .u64 0, .int .u64 0, .slice none 0 0, .slice none 0 0, .slice none 0 0]

/-- a block that is free in the elder ghost is told anew -/
theorem Le.turn {c : Nat} {G G' : Gh} (L : Le c G G') {b : Nat} (κ : Kd) (h : (G.kd b).t = 0) : Le c G (G'.put b κ) := by
  refine ⟨L.k, L.w0, L.lay, L.t0, L.t1, fun i => ?_⟩
  by_cases e : i = b
  · subst e; exact .inl h
  · rw [Gh.put_ne _ _ e]; exact L.kd i
/-- a message's block is let go -/
theorem TypedE.letgo {E w G b} (T : TypedE E w G) (hb : G.kd b = kMsg) : TypedE E w (G.put b kAny) := by
  have X : ∀ {i : Nat} {κ : Kd}, G.kd i = κ → κ.t ≠ 13 → (G.put b kAny).kd i = κ := fun {i κ} h h' => by
    rw [Gh.put_ne _ _ (fun e => by rw [e, hb] at h; rw [← h] at h'; exact h' rfl)]; exact h
  have back : ∀ {i : Nat}, ((G.put b kAny).kd i).t ≠ 15 → (G.put b kAny).kd i = G.kd i := fun {i} h => by
    by_cases e : i = b
    · subst e; rw [Gh.put_at] at h; exact absurd rfl h
    · exact Gh.put_ne _ _ e
  have eo : ∀ {v}, EntOk G v → EntOk (G.put b kAny) v := fun h => by
    rcases h with h | ⟨b1, n, c, h1, h2, h3⟩
    · exact .inl h
    · exact .inr ⟨b1, n, c, h1, X h2 (by simp), h3⟩
  have ko : ∀ {κ : Kd} {o : Obj}, KOk G κ o → KOk (G.put b kAny) κ o := fun {κ o} h => by
    obtain ⟨t, x, n, c, s, ob, ll⟩ := κ
    unfold KOk at h ⊢
    simp only at h ⊢
    split at h
    · exact h
    · obtain ⟨v, h1, h2⟩ := h
      obtain ⟨b1, n1, n2, c1, j1, j2, j3⟩ := h2.by_
      exact ⟨v, h1, ⟨b1, n1, n2, c1, j1, X j2 (by simp), j3⟩, eo h2.ca, h2.ak0, h2.ak1⟩
    · obtain ⟨u, v, h1, h2, h3⟩ := h
      refine ⟨u, v, h1, ?_, ?_⟩
      · rcases h2 with h2 | ⟨b1, c1, j1, j2⟩
        · exact .inl h2
        · exact .inr ⟨b1, c1, j1, X j2 (by simp)⟩
      · rcases h3 with h3 | ⟨b1, n1, c1, j1, j2, j3, j4⟩
        · exact .inl h3
        · exact .inr ⟨b1, n1, c1, j1, j2, j3, X j4 (by simp)⟩
    · exact h
    · obtain ⟨es, c, h1, h2, h3, h4⟩ := h
      exact ⟨es, c, h1, h2, fun e he => by obtain ⟨s, b1, k1, k2, k3⟩ := h3 e he; exact ⟨s, b1, k1, k2, X k3 (by simp)⟩, h4⟩
    · exact h
    · exact h
    · exact h
    · obtain ⟨arr, h1, h2, h3⟩ := h
      exact ⟨arr, h1, h2, fun i hi => by obtain ⟨b1, s, k1, k2⟩ := h3 i hi; exact ⟨b1, s, k1, X k2 (by simp)⟩⟩
    · exact h
    · exact h
    · exact h
    · exact h
    · obtain ⟨v, h1, h2⟩ := h
      refine ⟨v, h1, h2.fr, eo h2.ps, ?_⟩
      rcases h2.an with h | ⟨b1, b2, n, c1, c2, h1, h2, h3, h4, h5⟩
      · exact .inl h
      · exact .inr ⟨b1, b2, n, c1, c2, h1, h2, X h3 (by simp), X h4 (by simp), h5⟩
    · exact h
    · exact h
    · exact h
  refine ⟨T.os, T.tape, T.output, ?_, ?_, fun i o ho => X (T.old i o ho) (by simp), T.k5, T.tb, T.b5, fun x hx => X (T.nb x hx) (by simp), fun x hx => X (T.rb x hx) (by simp), fun x hx => X (T.sb x hx) (by simp), fun x hx => X (T.pm x hx) (by simp), fun x hx => X (T.qm x hx) (by simp), fun x hx => X (T.nw x hx) (by simp), fun x hx => X (T.cb x hx) (by simp), ?_, ?_, ?_, ?_, ?_, T.srt, T.rid, T.qid⟩
  · intro i o ho hE
    by_cases e : i = b
    · subst e; rw [Gh.put_at]; trivial
    · rw [Gh.put_ne _ _ e]; exact ko (T.ok i o ho hE)
  · intro i hi
    have h := T.fr i hi
    exact X h (by simp)
  · intro x i h1 h2 h3; have e := back (i := i) (by rw [h1]; simp); rw [e] at h1 h2 h3; exact T.slf x i h1 h2 h3
  · intro x i h1 h2; have e := back (i := i) (by rw [h1]; simp); rw [e] at h1 h2; exact T.un x i h1 h2
  · intro x i h1 h2; have e := back (i := i) (by rw [h1]; simp); rw [e] at h1 h2; exact T.uq x i h1 h2
  · intro x i h1 h2; have e := back (i := i) (by rw [h1]; simp); rw [e] at h1 h2; exact T.ur x i h1 h2
  · intro x i h1 h2; have e := back (i := i) (by rw [h1]; simp); rw [e] at h1 h2; exact T.up x i h1 h2

def QPost (G : Gh) (e : Ending) (w' : World) : Prop := ∃ (mv : MV) (G' : Gh), e = .returned (.agg mv.arr) ∧ mv.Ok G' ∧ Le 5 G G' ∧ Typed w' G'
end Go.Proofs.Qxb6002353a
