/-
  SEAT b6002353a: rows that are appended to.
-/
import Derived.Test.Qxb6002353aMaps
import Derived.OwnWalk
namespace Go.Proofs.Qxb6002353a
open Go.RowKit
set_option linter.unusedVariables false
set_option linter.unusedSimpArgs false

theorem TypedE.new {E w G} (T : TypedE E w G) {b κ} (h : G.kd b = κ) (h0 : κ.t ≠ 14) : G.w0.heap.size ≤ b := by
  rcases Nat.lt_or_ge b G.w0.heap.size with h' | h'
  · have := T.old b _ (by simp [h'] : G.w0.heap[b]? = some G.w0.heap[b])
    rw [h] at this; exact absurd (by rw [this]) h0
  · exact h'

/-- the blocks from lo up to hi: nothing told of them -/
def Gh.grow (G : Gh) (lo hi : Nat) : Gh := { G with kd := fun b => if lo ≤ b ∧ b < hi then kAny else G.kd b }
theorem Gh.grow_lt (G : Gh) {lo hi b : Nat} (h : b < lo) : (G.grow lo hi).kd b = G.kd b := by simp [Gh.grow]; omega
theorem Gh.grow_ge (G : Gh) {lo hi b : Nat} (h : hi ≤ b) : (G.grow lo hi).kd b = G.kd b := by simp [Gh.grow]; omega
theorem Gh.grow_in (G : Gh) {lo hi b : Nat} (h : lo ≤ b) (h2 : b < hi) : (G.grow lo hi).kd b = kAny := by simp [Gh.grow, h, h2]

theorem TypedE.grown {E w w' G row} (T : TypedE E w G) (g : w.grownBy w' row) (hr : ∀ b, row = some b → E b ∨ (G.kd b).t = 15) : TypedE E w' (G.grow w.heap.size w'.heap.size) := by
  have X : Ext G (G.grow w.heap.size w'.heap.size) := ⟨rfl, rfl, rfl, rfl, rfl, rfl, Nat.le_refl _, fun b => by
    rcases Nat.lt_or_ge b w.heap.size with h | h
    · exact .inr (.inr (.inr (.inl (G.grow_lt h).symm)))
    · exact .inl (by rw [T.fr b h])⟩
  have nz : ∀ {b : Nat} {κ' : Kd}, G.kd b = κ' → κ'.t ≠ 0 → (G.grow w.heap.size w'.heap.size).kd b = κ' := fun {b κ'} hb h0 => by
    rw [G.grow_lt (T.lt hb h0)]; exact hb
  have back : ∀ {b : Nat}, ((G.grow w.heap.size w'.heap.size).kd b).t ≠ 15 → (G.grow w.heap.size w'.heap.size).kd b = G.kd b := fun {b} hb => by
    rcases Nat.lt_or_ge b w.heap.size with h | h
    · exact G.grow_lt h
    · rcases Nat.lt_or_ge b w'.heap.size with h' | h'
      · exact absurd (by rw [G.grow_in h h']) hb
      · exact G.grow_ge h'
  refine ⟨g.os.trans T.os, g.tape.trans T.tape, g.output.trans T.output, ?_, ?_, ?_, T.k5, T.tb, T.b5, fun x hx => nz (T.nb x hx) (by simp), fun x hx => nz (T.rb x hx) (by simp), fun x hx => nz (T.sb x hx) (by simp), fun x hx => nz (T.pm x hx) (by simp), fun x hx => nz (T.qm x hx) (by simp), fun x hx => nz (T.nw x hx) (by simp), fun x hx => nz (T.cb x hx) (by simp), ?_, ?_, ?_, ?_, ?_, T.srt, T.rid, T.qid⟩
  · intro b o ho hE
    rcases Nat.lt_or_ge b w.heap.size with h | h
    · rw [G.grow_lt h]
      by_cases hb : row = some b
      · rcases hr b hb with h1 | h1
        · exact absurd h1 hE
        · unfold KOk; rw [h1]; trivial
      · rw [g.block b h (fun e => hb e.symm)] at ho
        exact (T.ok b o ho hE).ext X
    · have h' : b < w'.heap.size := (Array.getElem?_eq_some_iff.1 ho).1
      rw [G.grow_in h h']; trivial
  · intro b hb; rw [G.grow_ge hb]; exact T.fr b (Nat.le_trans g.size hb)
  · intro b o ho; exact nz (T.old b o ho) (by simp)
  · intro x b h1 h2 h3; have e := back (b := b) (by rw [h1]; simp); rw [e] at h1 h2 h3; exact T.slf x b h1 h2 h3
  · intro x b h1 h2; have e := back (b := b) (by rw [h1]; simp); rw [e] at h1 h2; exact T.un x b h1 h2
  · intro x b h1 h2; have e := back (b := b) (by rw [h1]; simp); rw [e] at h1 h2; exact T.uq x b h1 h2
  · intro x b h1 h2; have e := back (b := b) (by rw [h1]; simp); rw [e] at h1 h2; exact T.ur x b h1 h2
  · intro x b h1 h2; have e := back (b := b) (by rw [h1]; simp); rw [e] at h1 h2; exact T.up x b h1 h2
theorem Le.grow {E w G} (T : TypedE E w G) (hi : Nat) : Le 0 G (G.grow w.heap.size hi) := by
  refine ⟨rfl, rfl, rfl, Nat.le_refl _, Nat.le_refl _, fun b => ?_⟩
  rcases Nat.lt_or_ge b w.heap.size with h | h
  · exact .inr (.inr (.inl (G.grow_lt h).symm))
  · exact .inl (by rw [T.fr b h])

theorem info9 : (Try.prog.info? 9).map (fun i => (i.zero, i.size, i.bytes)) = some (some (.string ⟨#[]⟩), 1, 16) := by kernel_rfl
theorem info91 : (Try.prog.info? 91).map (fun i => (i.zero, i.size, i.bytes)) = some (some (.agg #[.string ⟨#[]⟩, .int .u64 0, .bool false]), 3, 32) := by kernel_rfl
theorem info74 : (Try.prog.info? 74).map (fun i => (i.zero, i.size, i.bytes)) = some (some (.pointer none), 1, 8) := by kernel_rfl
theorem info40 : (Try.prog.info? 40).map (fun i => (i.zero, i.size, i.bytes)) = some (some (.int .u64 0), 1, 8) := by kernel_rfl
theorem info5 : (Try.prog.info? 5).map (fun i => (i.zero, i.size, i.bytes)) = some (some (.int .u8 0), 1, 1) := by kernel_rfl

/-- one element of one cell appended -/
theorem append_one {t e : TypeId} {z : Value} {bytes : Nat} (ht : Try.prog.underlying t = some (.slice e)) (hi : (Try.prog.info? e).map (fun i => (i.zero, i.size, i.bytes)) = some (some z, 1, bytes)) (hz : z.cells.size = 1) (hb : bytes ≤ 16) (base : Nat) (ty : TypeId) {w : World} {v : Value} {n : Nat} {xs : List Value} (hown : w.ownsRow base e 1 v n xs) (hn : n ≤ 1000000) (hbase : base ≤ w.heap.size) {a : Addr} {c : Nat} {u : Value} (hu : w.cell? a = some u) (h1 : u.oneCell' = true) :
    ∃ v' w', (Builtin.append_ #[t, t] ty #[v, .slice (some a) 1 c]).run Try.prog w = .ok v' w' ∧ w'.ownsRow base e 1 v' (n + 1) (xs ++ [u]) ∧ w.grownBy w' v.ownBlock ∧ v' ≠ .slice none 0 0 := by
  obtain ⟨i, k1, k2, k3, k4⟩ := info_parts hi
  have hnb : (n + 1) * bytes ≤ 140737488355328 := by
    have : (n + 1) * bytes ≤ (n + 1) * 16 := Nat.mul_le_mul_left _ hb
    omega
  obtain ⟨v', w', j1, j2, j3, j4⟩ := run_append_own (P := Try.prog) w base t ty e i z 1 bytes ht k1 k2 k3 k4 hz (by omega) v n xs hown a 1 c [u] rfl (fun j y hj => by
    cases j with
    | zero =>
      simp at hj; subst hj
      have e0 : a.add 0 = a := by cases a; rfl
      rw [e0]; exact hu
    | succ j => simp at hj) (fun y hy => by simp at hy; subst hy; exact h1) (by unfold maxLen; omega) hnb hbase
  exact ⟨v', w', j1, j2, j3, fun e => by have := (j4.1 e).2; omega⟩
end Go.Proofs.Qxb6002353a
