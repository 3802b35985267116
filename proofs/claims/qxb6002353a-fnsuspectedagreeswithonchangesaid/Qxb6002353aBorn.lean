/-
  SEAT b6002353a: the network as BuildNet lays it, told by the ghost.
-/
import Derived.Test.Qxb6002353aNew
import Derived.Test.Qxb6002353aClone
namespace Go.Proofs.Qxb6002353a
open Go.RowKit
set_option linter.unusedVariables false
set_option linter.unusedSimpArgs false

def kinds (y : Nat) : Nat → Kd
  | 1 => kRec y
  | 2 => kCap y
  | 4 => kPeer y (nm y)
  | 5 => kPm y
  | 6 => kPar y 1 1
  | 7 => kQm y
  | 8 => kNw y
  | 9 => kNode y
  | _ => kAny
def layB (B : Nat) (y : Nat) : Lay := ⟨B + 10 * y + 9, B + 10 * y + 1, B + 10 * y + 4, B + 10 * y + 5, B + 10 * y + 7, B + 10 * y + 8, B + 10 * y + 2⟩
def gB (G : Gh) (B i : Nat) : Gh := { G with k := i, lay := layB B, kd := fun b => if b < B then G.kd b else if (b - B) / 10 < i then kinds ((b - B) / 10) ((b - B) % 10) else kFree }

theorem gB_lt {G : Gh} {B i b : Nat} (h : b < B) : (gB G B i).kd b = G.kd b := if_pos h
theorem gB_at {G : Gh} {B i y c : Nat} (hy : y < i) (hc : c < 10) : (gB G B i).kd (B + 10 * y + c) = kinds y c := by
  show (if B + 10 * y + c < B then _ else _) = _
  rw [if_neg (by omega), show (B + 10 * y + c - B) / 10 = y by omega, show (B + 10 * y + c - B) % 10 = c by omega, if_pos hy]
theorem gB_free {G : Gh} {B i b : Nat} (h : B + 10 * i ≤ b) : (gB G B i).kd b = kFree := by
  show (if b < B then _ else _) = _
  rw [if_neg (by omega), if_neg (by omega)]
theorem gB_inv {G : Gh} {B i b : Nat} (h : B ≤ b) (h2 : b < B + 10 * i) : ∃ y c, y < i ∧ c < 10 ∧ b = B + 10 * y + c :=
  ⟨(b - B) / 10, (b - B) % 10, by omega, by omega, by omega⟩

def peerA (s : ByteArray) : Array Value := #[.string s, .bool true, .int .u64 0, .int .u64 0, .bool false, .bool false, .bool false, .bool false, .int .u64 0, .int .u64 0, .int .u64 0, .bool false, .int .u64 0, .bool false, .bool false]
def nodeA (S : Nat) (s : ByteArray) (lf al : Int) : Array Value := #[.string s, .int .i64 lf, .int .i64 al, .func (.func 21) #[] #[.pointer (some ⟨S + 2, 0, none⟩)], .map (some (S + 5)), .slice (some ⟨S + 6, 0, none⟩) 1 1, .int .i64 1, .int .i64 0, .map (some (S + 7)), .slice none 0 0, .int .u64 0, .map (some (S + 8)), .int .u64 0, .int .i64 0, .bool false, .int .u64 0, .int .u64 0, .int .u64 0, .int .u64 0, .int .u64 0, .bool false, .bool false, .bool false, .int .u64 0]
/-- the ten blocks of a node -/
structure Node10 (W : World) (S : Nat) (s : ByteArray) (lf al : Int) : Prop where
  o1 : W.heap[S + 1]? = some (.cells #[.slice none 0 0, .bool false, .slice none 0 0] 38 (0, 0))
  o2 : W.heap[S + 2]? = some (.cells #[.pointer (some ⟨S + 1, 0, none⟩)] 36 (0, 0))
  o4 : W.heap[S + 4]? = some (.cells (peerA s) 73 (0, 0))
  o5 : W.heap[S + 5]? = some (.map #[{ key := .string s, val := .pointer (some ⟨S + 4, 0, none⟩), born := 0 }] 1)
  o6 : W.heap[S + 6]? = some (.cells #[.pointer (some ⟨S + 4, 0, none⟩)] 74 (0, 0))
  o7 : W.heap[S + 7]? = some (.map #[] 0)
  o8 : W.heap[S + 8]? = some (.map #[] 0)
  o9 : W.heap[S + 9]? = some (.cells (nodeA S s lf al) 64 (0, 0))
theorem Node10.of {W W' : World} {S : Nat} {s : ByteArray} {lf al : Int} (h : Node10 W S s lf al) (he : ∀ b, S ≤ b → b < S + 10 → W'.heap[b]? = W.heap[b]?) : Node10 W' S s lf al :=
  ⟨(he _ (by omega) (by omega)).trans h.o1, (he _ (by omega) (by omega)).trans h.o2, (he _ (by omega) (by omega)).trans h.o4, (he _ (by omega) (by omega)).trans h.o5, (he _ (by omega) (by omega)).trans h.o6, (he _ (by omega) (by omega)).trans h.o7, (he _ (by omega) (by omega)).trans h.o8, (he _ (by omega) (by omega)).trans h.o9⟩

structure Desc (wb : World) (B rcb nbk k : Nat) (lf al : Int) (i : Nat) (W : World) : Prop where
  os : W.os = wb.os
  tape : W.tape = wb.tape
  output : W.output = wb.output
  size : W.heap.size = B + 10 * i
  old : ∀ b, b < B → b ≠ rcb → b ≠ nbk → W.heap[b]? = wb.heap[b]?
  rc : ∃ ra : Array Value, W.heap[rcb]? = some (.cells ra 36 (0, 0)) ∧ ra.size = k ∧ ∀ y, y < i → ra[y]? = some (.pointer (some ⟨B + 10 * y + 1, 0, none⟩))
  nd : ∃ na : Array Value, W.heap[nbk]? = some (.cells na 34 (0, 0)) ∧ na.size = k ∧ ∀ y, y < i → na[y]? = some (.pointer (some ⟨B + 10 * y + 9, 0, none⟩))
  ob : ∀ y, y < i → Node10 W (B + 10 * y) (nm y) lf al

theorem typed_of_desc {wb Gb B rcb nbk k lf al W} (T : Typed wb Gb) (P : Pl Gb) (hB : wb.heap.size = B) (hr : (Gb.kd rcb).t = 15) (hn : (Gb.kd nbk).t = 15) (D : Desc wb B rcb nbk k lf al k W) (hk5 : k ≤ 5) : Typed W (gB Gb B k) := by
  have hrl : rcb < B := by rw [← hB]; exact T.T.lt rfl (by rw [hr]; simp)
  have hnl : nbk < B := by rw [← hB]; exact T.T.lt rfl (by rw [hn]; simp)
  have hrs : ∀ x, (gB Gb B k).rs x = [] := fun x => by show Gb.rs x = []; rw [P.rs]
  have hqs : ∀ x s, ¬ (gB Gb B k).qs x s := fun x s h => by have h : Gb.qs x s := h; rw [P.qs] at h; exact h
  have kdt : ∀ (b t : Nat), ((gB Gb B k).kd b).t = t → t ≠ 0 → t ≠ 14 → t ≠ 15 → ∃ y c, y < k ∧ c < 10 ∧ b = B + 10 * y + c ∧ (gB Gb B k).kd b = kinds y c := fun b t h h0 h1 h2 => by
    rcases Nat.lt_or_ge b B with hb | hb
    · rw [gB_lt hb] at h
      rcases P.kd b with e | e | e <;> exact absurd (h.symm.trans e) (by assumption)
    · rcases Nat.lt_or_ge b (B + 10 * k) with hb2 | hb2
      · obtain ⟨y, c, j1, j2, rfl⟩ := gB_inv (G := Gb) hb hb2
        exact ⟨y, c, j1, j2, rfl, gB_at j1 j2⟩
      · rw [gB_free hb2] at h; exact absurd h.symm h0
  have inv : ∀ (b t c0 x : Nat), ((gB Gb B k).kd b).t = t → ((gB Gb B k).kd b).x = x → t ≠ 0 → t ≠ 14 → t ≠ 15 → (∀ y c, c < 10 → (kinds y c).t = t → c = c0 ∧ (kinds y c).x = y) → b = B + 10 * x + c0 := fun b t c0 x h hx h0 h1 h2 hc => by
    obtain ⟨y, c, j1, j2, rfl, j3⟩ := kdt b t h h0 h1 h2
    rw [j3] at h hx
    obtain ⟨rfl, e⟩ := hc y c j2 h
    rw [e] at hx
    rw [hx]
  have cases10 : ∀ (t c0 : Nat), (∀ y, ∀ c, c < 10 → (kinds y c).t = t → c = c0 ∧ (kinds y c).x = y) → True := fun _ _ _ => trivial
  refine ⟨⟨D.os.trans T.T.os, D.tape.trans T.T.tape, D.output.trans T.T.output, ?_, ?_, ?_, hk5, ?_, ?_, fun x hx => gB_at hx (by omega), fun x hx => gB_at hx (by omega), fun x hx => gB_at hx (by omega), fun x hx => gB_at hx (by omega), fun x hx => gB_at hx (by omega), fun x hx => gB_at hx (by omega), fun x hx => gB_at hx (by omega), ?_, ?_, ?_, ?_, ?_, ?_, ?_, ?_⟩, ?_⟩
  · intro b o ho _
    rcases Nat.lt_or_ge b B with hb | hb
    · rw [gB_lt hb]
      by_cases e1 : b = rcb
      · subst e1; unfold KOk; rw [hr]; trivial
      · by_cases e2 : b = nbk
        · subst e2; unfold KOk; rw [hn]; trivial
        · rw [D.old b hb e1 e2] at ho
          have h := T.T.ok b o ho id
          unfold KOk at h ⊢
          rcases P.kd b with e | e | e
          · rw [e] at h; exact h.elim
          · rw [e] at h ⊢; exact h
          · rw [e]; trivial
    · have hb2 : b < B + 10 * k := by rw [← D.size]; exact (Array.getElem?_eq_some_iff.1 ho).1
      obtain ⟨y, c, j1, j2, rfl⟩ := gB_inv (G := Gb) hb hb2
      rw [gB_at j1 j2]
      have N := D.ob y j1
      have p4 : (gB Gb B k).kd (B + 10 * y + 4) = kPeer y (nm y) := gB_at j1 (by omega)
      have : c = 0 ∨ c = 1 ∨ c = 2 ∨ c = 3 ∨ c = 4 ∨ c = 5 ∨ c = 6 ∨ c = 7 ∨ c = 8 ∨ c = 9 := by omega
      rcases this with rfl | rfl | rfl | rfl | rfl | rfl | rfl | rfl | rfl | rfl
      · trivial
      · rw [N.o1] at ho; cases ho
        exact ⟨_, _, rfl, .inl ⟨rfl, hrs y⟩, .inl rfl⟩
      · rw [N.o2] at ho; cases ho
        rfl
      · trivial
      · rw [N.o4] at ho; cases ho
        exact ⟨⟨0, 0, 0, 0, 0, 0, true, false, false, false, false, false, false, false⟩, rfl, ⟨y, j1, rfl⟩, fun _ => by show (0 : Int) = Gb.rd y; rw [P.rd]⟩
      · rw [N.o5] at ho; cases ho
        refine ⟨_, _, rfl, MapKept.stamped_push (MapKept.stamped_empty 0) (by simp), fun e he => ?_, ⟨_, List.mem_singleton.2 rfl, rfl⟩, ?_⟩
        · have he : e = _ := List.mem_singleton.1 he
          subst he
          exact ⟨nm y, _, rfl, rfl, p4⟩
        · show 1 = Gb.bn y; rw [P.bn]
      · rw [N.o6] at ho; cases ho
        refine ⟨_, rfl, ⟨rfl, by show 1 ≤ maxLen; unfold maxLen; omega⟩, fun i hi => ?_⟩
        have hi : i < 1 := hi
        have : i = 0 := by omega
        subst this
        exact ⟨_, nm y, rfl, p4⟩
      · rw [N.o7] at ho; cases ho
        exact ⟨_, _, rfl, MapKept.stamped_empty 0, (fun e he => by simp at he), fun s hs => (hqs y s hs).elim⟩
      · rw [N.o8] at ho; cases ho
        exact ⟨_, _, rfl, MapKept.stamped_empty 0, (fun e he => by simp at he)⟩
      · rw [N.o9] at ho; cases ho
        refine ⟨⟨lf, al, 1, 0, 0, 0, 0, 0, 0, 0, 0, 0, false, false, false, false, .slice (some ⟨B + 10 * y + 6, 0, none⟩) 1 1, .slice none 0 0⟩, ?_, ⟨B + 10 * y + 6, 1, 1, 1, rfl, gB_at j1 (by omega), by omega, by omega, by show 1 ≤ Gb.bn y; rw [P.bn]; exact Nat.le_refl _⟩, .inl rfl, by show (0 : Int) ≤ 0; omega, by show (0 : Int) ≤ (Gb.t : Int); omega⟩
        have e : (gB Gb B k).rd (kinds y 9).x = 0 := by show Gb.rd y = 0; rw [P.rd]
        show Obj.cells (nodeA (B + 10 * y) (nm y) lf al) 64 (0, 0) = _
        unfold NV.arr
        rw [e]
        rfl
  · intro b hb; rw [D.size] at hb; exact gB_free hb
  · intro b o ho
    have hlt : b < B := by
      have h1 : b < Gb.w0.heap.size := (Array.getElem?_eq_some_iff.1 ho).1
      have := T.T.size; omega
    rw [gB_lt hlt]; exact T.T.old b o ho
  · show Gb.t ≤ 100000; rw [P.t]; omega
  · intro x hx; show Gb.bn x ≤ 5; rw [P.bn]; show 1 ≤ 5; omega
  · intro x b h1 h2 h3
    exact inv b 3 4 x h1 h2 (by omega) (by omega) (by omega) (fun y c hc h => by
      have : c = 0 ∨ c = 1 ∨ c = 2 ∨ c = 3 ∨ c = 4 ∨ c = 5 ∨ c = 6 ∨ c = 7 ∨ c = 8 ∨ c = 9 := by omega
      rcases this with rfl | rfl | rfl | rfl | rfl | rfl | rfl | rfl | rfl | rfl <;> simp [kinds] at h ⊢)
  · intro x b h1 h2
    exact inv b 1 9 x h1 h2 (by omega) (by omega) (by omega) (fun y c hc h => by
      have : c = 0 ∨ c = 1 ∨ c = 2 ∨ c = 3 ∨ c = 4 ∨ c = 5 ∨ c = 6 ∨ c = 7 ∨ c = 8 ∨ c = 9 := by omega
      rcases this with rfl | rfl | rfl | rfl | rfl | rfl | rfl | rfl | rfl | rfl <;> simp [kinds] at h ⊢)
  · intro x b h1 h2
    exact inv b 5 7 x h1 h2 (by omega) (by omega) (by omega) (fun y c hc h => by
      have : c = 0 ∨ c = 1 ∨ c = 2 ∨ c = 3 ∨ c = 4 ∨ c = 5 ∨ c = 6 ∨ c = 7 ∨ c = 8 ∨ c = 9 := by omega
      rcases this with rfl | rfl | rfl | rfl | rfl | rfl | rfl | rfl | rfl | rfl <;> simp [kinds] at h ⊢)
  · intro x b h1 h2
    exact inv b 2 1 x h1 h2 (by omega) (by omega) (by omega) (fun y c hc h => by
      have : c = 0 ∨ c = 1 ∨ c = 2 ∨ c = 3 ∨ c = 4 ∨ c = 5 ∨ c = 6 ∨ c = 7 ∨ c = 8 ∨ c = 9 := by omega
      rcases this with rfl | rfl | rfl | rfl | rfl | rfl | rfl | rfl | rfl | rfl <;> simp [kinds] at h ⊢)
  · intro x b h1 h2
    exact inv b 4 5 x h1 h2 (by omega) (by omega) (by omega) (fun y c hc h => by
      have : c = 0 ∨ c = 1 ∨ c = 2 ∨ c = 3 ∨ c = 4 ∨ c = 5 ∨ c = 6 ∨ c = 7 ∨ c = 8 ∨ c = 9 := by omega
      rcases this with rfl | rfl | rfl | rfl | rfl | rfl | rfl | rfl | rfl | rfl <;> simp [kinds] at h ⊢)
  · intro x hx; rw [hrs]; exact List.Pairwise.nil
  · intro x hx s hs; rw [hrs] at hs; cases hs
  · intro x hx s hs; exact (hqs x s hs).elim
  · intro x hx s; rw [hrs]; exact ⟨fun h => (hqs x s h).elim, fun h => by cases h⟩
end Go.Proofs.Qxb6002353a
