/-
  THE WALK OF merge.ZZMiddleSnake (function 21): it makes a differ and calls middleSnake.
-/
import Derived.Test.Qxb6601687aSnakeK
import Derived.Test.Qxb6601687aSmall
namespace Go.Proofs.Qxb6601687a
open Go.RowKit
set_option linter.unusedVariables false
set_option linter.unusedSimpArgs false

theorem heap3 (w : World) (o1 o2 o3 : Obj) : (((w.alloc o1).alloc o2).alloc o3).heap[w.heap.size]? = some o1 ∧ (((w.alloc o1).alloc o2).alloc o3).heap[w.heap.size + 1]? = some o2 ∧ (((w.alloc o1).alloc o2).alloc o3).heap[w.heap.size + 1 + 1]? = some o3 ∧
    (∀ k, k < w.heap.size → (((w.alloc o1).alloc o2).alloc o3).heap[k]? = w.heap[k]?) ∧ (((w.alloc o1).alloc o2).alloc o3).heap.size = w.heap.size + 3 := by
  show (((w.heap.push o1).push o2).push o3)[w.heap.size]? = some o1 ∧ (((w.heap.push o1).push o2).push o3)[w.heap.size + 1]? = some o2 ∧ (((w.heap.push o1).push o2).push o3)[w.heap.size + 1 + 1]? = some o3 ∧ (∀ k, k < w.heap.size → (((w.heap.push o1).push o2).push o3)[k]? = w.heap[k]?) ∧ (((w.heap.push o1).push o2).push o3).size = w.heap.size + 3
  refine ⟨?_, ?_, ?_, fun k hk => ?_, ?_⟩
  · simp only [Array.getElem?_push, Array.size_push]; rw [if_neg (by omega), if_neg (by omega), if_pos trivial]
  · simp only [Array.getElem?_push, Array.size_push]; rw [if_neg (by omega), if_pos trivial]
  · simp only [Array.getElem?_push, Array.size_push]; rw [if_pos trivial]
  · simp only [Array.getElem?_push, Array.size_push]; rw [if_neg (by omega), if_neg (by omega), if_neg (by omega)]
  · simp

/-- what ZZMiddleSnake hands back -/
def out6 (r : My.Res) : Value :=
  match r.1 with
  | none => .tuple #[.int .i64 0, .int .i64 0, .int .i64 0, .int .i64 0, .bool false, .int .i64 r.2]
  | some q => .tuple #[.int .i64 q.1, .int .i64 q.2.1, .int .i64 q.2.2.1, .int .i64 q.2.2.2, .bool true, .int .i64 r.2]

theorem results6 {fn : Func} (h : fn.results = #[.tmp 14, .tmp 15, .tmp 16, .tmp 17, .tmp 18, .tmp 19]) (tmps : Array Value) (P : Program) (w : World) :
    (results fn tmps).run P w = .ok (.tuple #[tmps.getD 14 undef, tmps.getD 15 undef, tmps.getD 16 undef, tmps.getD 17 undef, tmps.getD 18 undef, tmps.getD 19 undef]) w := by
  simp [results, h]

/-- the three new blocks are what middleSnake wants -/
theorem made_ok (E : E33) (w : World) (Z : Array Value) (s : Int) (hZ : Z.size = E.N) (hpd : E.pd = w.heap.size + 1 + 1)
    (hfg : (E.fb = w.heap.size ∧ E.gb = w.heap.size + 1) ∨ (E.fb = w.heap.size + 1 ∧ E.gb = w.heap.size))
    (hT : E.T = 42) (hab : E.ab < w.heap.size ∨ E.la = 0) (hbb : E.bb < w.heap.size ∨ E.lb = 0)
    (aa : ∀ i, i < E.la → w.cell? ⟨E.ab, i, none⟩ = some (.int .i32 (E.A i))) (bb : ∀ i, i < E.lb → w.cell? ⟨E.bb, i, none⟩ = some (.int .i32 (E.B i))) :
    O0 E (((w.alloc (.cells Z 3)).alloc (.cells Z 3)).alloc (.cells #[E.va, E.vb, E.vd, E.vi, .slice (some ⟨E.fb, 0, none⟩) E.N E.N, .slice (some ⟨E.gb, 0, none⟩) E.N E.N, .int .i64 s] 42)).drew s 0 := by
  obtain ⟨h1, h2, h3, h4, h5⟩ := heap3 w (.cells Z 3) (.cells Z 3) (.cells #[E.va, E.vb, E.vd, E.vi, .slice (some ⟨E.fb, 0, none⟩) E.N E.N, .slice (some ⟨E.gb, 0, none⟩) E.N E.N, .int .i64 s] 42)
  have at_ : ∀ {b b' : Nat} {o : Obj}, b = b' → (((w.alloc (.cells Z 3)).alloc (.cells Z 3)).alloc (.cells #[E.va, E.vb, E.vd, E.vi, .slice (some ⟨E.fb, 0, none⟩) E.N E.N, .slice (some ⟨E.gb, 0, none⟩) E.N E.N, .int .i64 s] 42)).heap[b']? = some o → (((w.alloc (.cells Z 3)).alloc (.cells Z 3)).alloc (.cells #[E.va, E.vb, E.vd, E.vi, .slice (some ⟨E.fb, 0, none⟩) E.N E.N, .slice (some ⟨E.gb, 0, none⟩) E.N E.N, .int .i64 s] 42)).heap[b]? = some o := by
    intro b b' o hbb h; rw [hbb]; exact h
  refine ⟨by rw [hT]; exact at_ hpd h3, ?_, ?_, fun i hi => ?_, fun i hi => ?_⟩
  · rcases hfg with ⟨h, _⟩ | ⟨h, _⟩
    · exact ⟨Z, at_ h h1, hZ, by omega⟩
    · exact ⟨Z, at_ h h2, hZ, by omega⟩
  · rcases hfg with ⟨_, h⟩ | ⟨_, h⟩
    · exact ⟨Z, at_ h h2, hZ, by omega⟩
    · exact ⟨Z, at_ h h1, hZ, by omega⟩
  · rw [← aa i hi]
    exact World.cell?_of_block (w := w) (h4 E.ab (by omega))
  · rw [← bb i hi]
    exact World.cell?_of_block (w := w) (h4 E.bb (by omega))

theorem made_below (E : E33) (w W1 : World) (o1 o2 o3 : Obj) (hpd : E.pd = w.heap.size + 1 + 1)
    (hfg : (E.fb = w.heap.size ∧ E.gb = w.heap.size + 1) ∨ (E.fb = w.heap.size + 1 ∧ E.gb = w.heap.size)) (sm : Sm E (((w.alloc o1).alloc o2).alloc o3).drew W1) : Below w.heap.size w W1 := by
  obtain ⟨h1, h2, h3, h4, h5⟩ := heap3 w o1 o2 o3
  refine ⟨sm.os, sm.tape, sm.output, ?_, fun k hk => ?_⟩
  · rw [sm.size]; show _ ≤ (((w.alloc o1).alloc o2).alloc o3).heap.size; omega
  · rw [sm.block k (by omega) (by omega) (by omega)]; exact h4 k hk

def E21 (w : World) (fb gb : Nat) (aa ba : Option Addr) (ab bb la ca lb cb : Nat) (x0 y0 : Int) (n m : Nat) (A B : Nat → Int) : E33 :=
  { pd := w.heap.size + 1 + 1, fb := fb, gb := gb, ab := ab, bb := bb, N := n + m + 3, n := n, m := m, T := 42, la := la, ca := ca, lb := lb, cb := cb, x0 := x0, y0 := y0, va := .slice aa la ca, vb := .slice ba lb cb, vd := .slice none 0 0, vi := .slice none 0 0, A := A, B := B }

set_option maxHeartbeats 2000000 in
theorem mz_any (aa ba : Option Addr) (ab bb la ca lb cb : Nat) (x0 y0 s : Int) (n m : Nat) (A B : Nat → Int) (w : World) (hx0 : 0 ≤ x0) (hy0 : 0 ≤ y0) (hx1 : x0 + n ≤ la) (hy1 : y0 + m ≤ lb) (hla : la ≤ 1024) (hlb : lb ≤ 1024)
    (hs0 : -2147483648 ≤ s) (hs1 : s ≤ 9223372036854775807)
    (haa : 0 < la → aa = some ⟨ab, 0, none⟩) (hba : 0 < lb → ba = some ⟨bb, 0, none⟩)
    (hab : (ab < w.heap.size) ∨ (la = 0 ∧ w.heap.size + 1 + 1 < ab)) (hbb : (bb < w.heap.size) ∨ (lb = 0 ∧ w.heap.size + 1 + 1 < bb))
    (cA : ∀ i, i < la → w.cell? ⟨ab, i, none⟩ = some (.int .i32 (A i))) (cB : ∀ i, i < lb → w.cell? ⟨bb, i, none⟩ = some (.int .i32 (B i))) :
    Calls Try.prog 21 #[.slice aa la ca, .slice ba lb cb, .int .i64 s, .int .i64 x0, .int .i64 (x0 + n), .int .i64 y0, .int .i64 (y0 + m)] w fun e w' =>
      e = .returned (out6 (My.ms (fun i => A (x0.toNat + i)) (fun i => B (y0.toNat + i)) n m s)) ∧ Below w.heap.size w w' := by
  obtain ⟨Z, hZ, hm⟩ : ∃ Z : Array Value, Z.size = n + m + 3 ∧ ∀ w, (Instr.makeSlice 40 (.int .i64 ((n : Int) + m + 3)) (.int .i64 ((n : Int) + m + 3))).run Try.prog w = .ok (.slice (some ⟨w.heap.size, 0, none⟩) (n + m + 3) (n + m + 3)) (w.alloc (.cells Z 3)) :=
    ⟨_, by simp [size_madeCells], fun w => make40 (n + m + 3) (by omega) w⟩
  have HZ : Hid (Z.size = n + m + 3) := hZ
  clear hZ
  have sz : ∀ fb gb, (fb = w.heap.size ∧ gb = w.heap.size + 1) ∨ (fb = w.heap.size + 1 ∧ gb = w.heap.size) → Sz (E21 w fb gb aa ba ab bb la ca lb cb x0 y0 n m A B) := by
    intro fb gb hfg
    constructor <;> simp only [E21]
    all_goals first
      | omega
      | (intro h; rw [haa (by omega)])
      | (intro h; rw [hba (by omega)])
  have SZ : Hid (∀ fb gb, (fb = w.heap.size ∧ gb = w.heap.size + 1) ∨ (fb = w.heap.size + 1 ∧ gb = w.heap.size) → Sz (E21 w fb gb aa ba ab bb la ca lb cb x0 y0 n m A B)) := sz
  clear sz
  have HA : Hid (∀ i, i < la → w.cell? ⟨ab, i, none⟩ = some (.int .i32 (A i))) := cA
  have HB : Hid (∀ i, i < lb → w.cell? ⟨bb, i, none⟩ = some (.int .i32 (B i))) := cB
  have HA2 : Hid (ab < w.heap.size ∨ la = 0) := by rcases hab with h | h; exact .inl h; exact .inr h.1
  have HB2 : Hid (bb < w.heap.size ∨ lb = 0) := by rcases hbb with h | h; exact .inl h; exact .inr h.1
  clear cA cB hab hbb haa hba
  have hz : x0 + (n : Int) - x0 + (y0 + m) - y0 + 3 = (n : Int) + m + 3 := by omega
  go_enter Try.func21, Try.ntmps21
  go_wp2
  clear hz
  go_region
  all_goals go_wp2_with fail
  · have hfg : ((w.heap.size = w.heap.size ∧ (w.heap.size + 1) = w.heap.size + 1) ∨ (w.heap.size = w.heap.size + 1 ∧ (w.heap.size + 1) = w.heap.size)) := .inl ⟨rfl, rfl⟩
    refine (ms_any (E21 w w.heap.size (w.heap.size + 1) aa ba ab bb la ca lb cb x0 y0 n m A B) (SZ.out _ _ hfg) s _ (made_ok (E21 w w.heap.size (w.heap.size + 1) aa ba ab bb la ca lb cb x0 y0 n m A B) w Z s HZ.out rfl hfg rfl HA2.out HB2.out HA.out HB.out) hs0 hs1).mono ?_
    rintro e w1 ⟨rfl, ⟨F, G, ok⟩, sm⟩
    have hbel := made_below (E21 w w.heap.size (w.heap.size + 1) aa ba ab bb la ca lb cb x0 y0 n m A B) w w1 _ _ _ rfl hfg sm
    have hms : My.ms (E21 w w.heap.size (w.heap.size + 1) aa ba ab bb la ca lb cb x0 y0 n m A B).a (E21 w w.heap.size (w.heap.size + 1) aa ba ab bb la ca lb cb x0 y0 n m A B).b (E21 w w.heap.size (w.heap.size + 1) aa ba ab bb la ca lb cb x0 y0 n m A B).n (E21 w w.heap.size (w.heap.size + 1) aa ba ab bb la ca lb cb x0 y0 n m A B).m s = My.ms (fun i => A (x0.toNat + i)) (fun i => B (y0.toNat + i)) n m s := rfl
    rw [hms] at ok ⊢
    have c6 : w1.cell? ⟨w.heap.size + 1 + 1, 6, none⟩ = _ := ok.d6
    have HB : Hid (Below w.heap.size w w1) := hbel
    clear hms ok sm hbel hfg hm
    generalize hr : My.ms (fun i => A (x0.toNat + i)) (fun i => B (y0.toNat + i)) n m s = r at *
    obtain ⟨o, s'⟩ := r
    have HR : Hid (My.ms (fun i => A (x0.toNat + i)) (fun i => B (y0.toNat + i)) n m s = (o, s')) := hr
    clear hr
    cases o with
    | none =>
      simp only [back]
      go_wp2_with fail
      go_quiet (fail)
      go_wp2_with fail
      exact bodyPost_ret (v := out6 (none, s')) (by rw [results6 rfl]; rfl) rfl ⟨by rw [HR.out], below_drewN HB.out _⟩
    | some q =>
      simp only [back]
      go_wp2_with fail
      go_quiet (fail)
      go_wp2_with fail
      exact bodyPost_ret (v := out6 (some q, s')) (by rw [results6 rfl]; rfl) rfl ⟨by rw [HR.out], below_drewN HB.out _⟩
  · have hfg : (((w.heap.size + 1) = w.heap.size ∧ w.heap.size = w.heap.size + 1) ∨ ((w.heap.size + 1) = w.heap.size + 1 ∧ w.heap.size = w.heap.size)) := .inr ⟨rfl, rfl⟩
    refine (ms_any (E21 w (w.heap.size + 1) w.heap.size aa ba ab bb la ca lb cb x0 y0 n m A B) (SZ.out _ _ hfg) s _ (made_ok (E21 w (w.heap.size + 1) w.heap.size aa ba ab bb la ca lb cb x0 y0 n m A B) w Z s HZ.out rfl hfg rfl HA2.out HB2.out HA.out HB.out) hs0 hs1).mono ?_
    rintro e w1 ⟨rfl, ⟨F, G, ok⟩, sm⟩
    have hbel := made_below (E21 w (w.heap.size + 1) w.heap.size aa ba ab bb la ca lb cb x0 y0 n m A B) w w1 _ _ _ rfl hfg sm
    have hms : My.ms (E21 w (w.heap.size + 1) w.heap.size aa ba ab bb la ca lb cb x0 y0 n m A B).a (E21 w (w.heap.size + 1) w.heap.size aa ba ab bb la ca lb cb x0 y0 n m A B).b (E21 w (w.heap.size + 1) w.heap.size aa ba ab bb la ca lb cb x0 y0 n m A B).n (E21 w (w.heap.size + 1) w.heap.size aa ba ab bb la ca lb cb x0 y0 n m A B).m s = My.ms (fun i => A (x0.toNat + i)) (fun i => B (y0.toNat + i)) n m s := rfl
    rw [hms] at ok ⊢
    have c6 : w1.cell? ⟨w.heap.size + 1 + 1, 6, none⟩ = _ := ok.d6
    have HB : Hid (Below w.heap.size w w1) := hbel
    clear hms ok sm hbel hfg hm
    generalize hr : My.ms (fun i => A (x0.toNat + i)) (fun i => B (y0.toNat + i)) n m s = r at *
    obtain ⟨o, s'⟩ := r
    have HR : Hid (My.ms (fun i => A (x0.toNat + i)) (fun i => B (y0.toNat + i)) n m s = (o, s')) := hr
    clear hr
    cases o with
    | none =>
      simp only [back]
      go_wp2_with fail
      go_quiet (fail)
      go_wp2_with fail
      exact bodyPost_ret (v := out6 (none, s')) (by rw [results6 rfl]; rfl) rfl ⟨by rw [HR.out], below_drewN HB.out _⟩
    | some q =>
      simp only [back]
      go_wp2_with fail
      go_quiet (fail)
      go_wp2_with fail
      exact bodyPost_ret (v := out6 (some q, s')) (by rw [results6 rfl]; rfl) rfl ⟨by rw [HR.out], below_drewN HB.out _⟩
#print axioms mz_any
end Go.Proofs.Qxb6601687a
