/-
  SEAT b6002353a: the memory of the little network, told by a ghost: each block of the heap has a kind.
-/
import Derived.Test.Qxb6002353aRows
import Derived.WalkKit
import Derived.WalkSpells
import Derived.WalkLawsBesides
import Derived.Below
import Derived.MapKept
import Derived.Maps.RangeRun
import Derived.Deep.LoopGhost
import Derived.Deep.QuietTactic
import Derived.BigQuiet
import Derived.Deep.RegionWith
namespace Go.Proofs.Qxb6002353a
open Go.RowKit
set_option linter.unusedVariables false
set_option linter.unusedSimpArgs false

/-- the name of node i -/
def nm (i : Nat) : ByteArray := ⟨#[(97 + i).toUInt8]⟩

/-- a block's kind -/
structure Kd where
  (t x n c : Nat)
  s : ByteArray
  o : Obj
  l : List ByteArray

abbrev kFree : Kd := ⟨0, 0, 0, 0, .empty, default, []⟩
abbrev kNode (x : Nat) : Kd := ⟨1, x, 0, 0, .empty, default, []⟩
abbrev kRec (x : Nat) : Kd := ⟨2, x, 0, 0, .empty, default, []⟩
abbrev kPeer (x : Nat) (s : ByteArray) : Kd := ⟨3, x, 0, 0, s, default, []⟩
abbrev kPm (x : Nat) : Kd := ⟨4, x, 0, 0, .empty, default, []⟩
abbrev kQm (x : Nat) : Kd := ⟨5, x, 0, 0, .empty, default, []⟩
abbrev kNw (x : Nat) : Kd := ⟨6, x, 0, 0, .empty, default, []⟩
abbrev kCap (x : Nat) : Kd := ⟨7, x, 0, 0, .empty, default, []⟩
abbrev kPar (x n c : Nat) : Kd := ⟨8, x, n, c, .empty, default, []⟩
abbrev kEnt (n : Nat) : Kd := ⟨9, 0, n, 0, .empty, default, []⟩
abbrev kStr (n : Nat) : Kd := ⟨10, 0, n, 0, .empty, default, []⟩
abbrev kU64 (n : Nat) : Kd := ⟨11, 0, n, 0, .empty, default, []⟩
abbrev kIds (x c : Nat) (l : List ByteArray) : Kd := ⟨12, x, 0, c, .empty, default, l⟩
abbrev kMsg : Kd := ⟨13, 0, 0, 0, .empty, default, []⟩
abbrev kSp (x c : Nat) : Kd := ⟨16, x, 0, c, .empty, default, []⟩
abbrev kEx (o : Obj) : Kd := ⟨14, 0, 0, 0, .empty, o, []⟩
abbrev kAny : Kd := ⟨15, 0, 0, 0, .empty, default, []⟩

/-- where the parts of node x lie -/
structure Lay where
  (nb rb sb pm qm nw cb : Nat)

structure Gh where
  (k t : Nat)
  bn : Nat → Nat
  w0 : World
  lay : Nat → Lay
  rd : Nat → Int
  rs : Nat → List ByteArray
  qs : Nat → ByteArray → Prop
  kd : Nat → Kd

def ID (G : Gh) (s : ByteArray) : Prop := ∃ i, i < G.k ∧ s = nm i

/-- a number that fits uint64 -/
def U64 (z : Int) : Prop := 0 ≤ z ∧ z < 18446744073709551616

/-! ### values -/
def EntOk (G : Gh) (v : Value) : Prop := v = .slice none 0 0 ∨ ∃ b n c, v = .slice (some ⟨b, 0, none⟩) n c ∧ G.kd b = kEnt n ∧ n ≤ 5 ∧ 0 < n
def AnsOk (G : Gh) (u v : Value) : Prop := (u = .slice none 0 0 ∧ v = .slice none 0 0) ∨ ∃ b1 b2 n c1 c2, u = .slice (some ⟨b1, 0, none⟩) n c1 ∧ v = .slice (some ⟨b2, 0, none⟩) n c2 ∧ G.kd b1 = kStr n ∧ G.kd b2 = kU64 n ∧ n ≤ 5
def ByOk (G : Gh) (x : Nat) (v : Value) : Prop := ∃ b n n' c, v = .slice (some ⟨b, 0, none⟩) n c ∧ G.kd b = kPar x n' c ∧ n ≤ n' ∧ n' ≤ c ∧ n ≤ G.bn x
def IdsOk (G : Gh) (x : Nat) (v : Value) : Prop := (v = .slice none 0 0 ∧ G.rs x = []) ∨ ∃ b c, v = .slice (some ⟨b, 0, none⟩) (G.rs x).length c ∧ G.kd b = kIds x c (G.rs x)
def FrOk (G : Gh) (x : Nat) (v : Value) : Prop := v = .slice none 0 0 ∨ ∃ b n c, v = .slice (some ⟨b, 0, none⟩) n c ∧ n ≤ c ∧ n ≤ G.t ∧ G.kd b = kSp x c

/-! ### the node, a peer, a message -/
structure NV where
  (lf al kn ak dg an ch ex mi lo wa pa : Int)
  (wh su sn un : Bool)
  (by_ ca : Value)
def NV.arr (G : Gh) (x : Nat) (v : NV) : Array Value :=
  #[.string (nm x), .int .i64 v.lf, .int .i64 v.al, .func (.func 21) #[] #[.pointer (some ⟨(G.lay x).cb, 0, none⟩)], .map (some (G.lay x).pm), v.by_, .int .i64 v.kn, .int .i64 v.ak, .map (some (G.lay x).qm), v.ca, .int .u64 v.dg, .map (some (G.lay x).nw),
    .int .u64 (G.rd x), .int .i64 v.an, .bool v.wh, .int .u64 v.ch, .int .u64 v.ex, .int .u64 v.mi, .int .u64 v.lo, .int .u64 v.wa, .bool v.su, .bool v.sn, .bool v.un, .int .u64 v.pa]
structure NV.Ok (G : Gh) (x : Nat) (v : NV) : Prop where
  by_ : ByOk G x v.by_
  ca : EntOk G v.ca
  ak0 : 0 ≤ v.ak
  ak1 : v.ak ≤ G.t

structure PV where
  (as_ an rd si wa un : Int)
  (kn he wh qu re su ao mo : Bool)
def PV.arr (s : ByteArray) (v : PV) : Array Value :=
  #[.string s, .bool v.kn, .int .u64 v.as_, .int .u64 v.an, .bool v.he, .bool v.wh, .bool v.qu, .bool v.re, .int .u64 v.rd, .int .u64 v.si, .int .u64 v.wa, .bool v.su, .int .u64 v.un, .bool v.ao, .bool v.mo]

structure MV where
  (kn rd wa ho dg : Int)
  fr : ByteArray
  su : Bool
  (ps an rs : Value)
def MV.arr (v : MV) : Array Value :=
  #[.int .u8 v.kn, .string v.fr, .int .u64 v.rd, .int .u64 v.wa, .bool v.su, .int .u64 v.ho, .int .u64 v.dg, v.ps, v.an, v.rs]
structure MV.Ok (G : Gh) (v : MV) : Prop where
  fr : ID G v.fr
  ps : EntOk G v.ps
  an : AnsOk G v.an v.rs

/-! ### blocks -/
def NodeOk (G : Gh) (x : Nat) (o : Obj) : Prop := ∃ v : NV, o = .cells (v.arr G x) 64 (0, 0) ∧ v.Ok G x
def RecOk (G : Gh) (x : Nat) (o : Obj) : Prop := ∃ u v, o = .cells #[u, .bool false, v] 38 (0, 0) ∧ IdsOk G x u ∧ FrOk G x v
def PeerOk (G : Gh) (x : Nat) (s : ByteArray) (o : Obj) : Prop := ∃ v : PV, o = .cells (v.arr s) 73 (0, 0) ∧ ID G s ∧ (s = nm x → v.an = G.rd x)
def PmOk (G : Gh) (x : Nat) (o : Obj) : Prop := ∃ es c, o = .map es c ∧ MapKept.Stamped es c ∧ (∀ e ∈ es.toList, ∃ s b, e.key = Value.string s ∧ e.val = Value.pointer (some ⟨b, 0, none⟩) ∧ G.kd b = kPeer x s) ∧ (∃ e ∈ es.toList, e.key = Value.string (nm x)) ∧ es.size = G.bn x
def QmOk (G : Gh) (x : Nat) (o : Obj) : Prop := ∃ es c, o = .map es c ∧ MapKept.Stamped es c ∧ (∀ e ∈ es.toList, ∃ s tg su, e.key = Value.string s ∧ e.val = Value.agg #[.int .u64 tg, .bool su] ∧ (ID G s ∧ U64 tg) ∧ (su = true ↔ G.qs x s)) ∧ ∀ s, G.qs x s → ∃ e ∈ es.toList, e.key = Value.string s
def NwOk (G : Gh) (o : Obj) : Prop := ∃ es c, o = .map es c ∧ MapKept.Stamped es c ∧ ∀ e ∈ es.toList, ∃ s u, e.key = Value.string s ∧ e.val = Value.bool u ∧ ID G s
def CapOk (G : Gh) (x : Nat) (o : Obj) : Prop := o = .cells #[.pointer (some ⟨(G.lay x).rb, 0, none⟩)] 36 (0, 0)
def ParOk (G : Gh) (x n c : Nat) (o : Obj) : Prop := ∃ arr : Array Value, o = .cells arr 74 (0, 0) ∧ (arr.size = c ∧ c ≤ maxLen) ∧ ∀ i, i < n → ∃ b s, arr[i]? = some (.pointer (some ⟨b, 0, none⟩)) ∧ G.kd b = kPeer x s
def EArr (G : Gh) (n : Nat) (o : Obj) : Prop := ∃ arr : Array Value, o = .cells arr 91 (0, 0) ∧ ∀ i, i < n → ∃ s tg su, (ID G s ∧ U64 tg) ∧ arr[3 * i]? = some (.string s) ∧ arr[3 * i + 1]? = some (.int .u64 tg) ∧ arr[3 * i + 2]? = some (.bool su)
def SArr (n : Nat) (o : Obj) : Prop := ∃ arr : Array Value, o = .cells arr 9 (0, 0) ∧ ∀ i, i < n → ∃ s, arr[i]? = some (.string s)
def UArr (n : Nat) (o : Obj) : Prop := ∃ arr : Array Value, o = .cells arr 40 (0, 0) ∧ ∀ i, i < n → ∃ z, arr[i]? = some (.int .u64 z)
def IdsArr (c : Nat) (l : List ByteArray) (o : Obj) : Prop := ∃ arr : Array Value, o = .cells arr 9 (0, 0) ∧ (arr.size = c ∧ c ≤ maxLen) ∧ l.length ≤ c ∧ ∀ (i : Nat) (s : ByteArray), l[i]? = some s → arr[i]? = some (.string s)
def MsgOk (G : Gh) (o : Obj) : Prop := ∃ v : MV, o = .cells v.arr 44 (0, 0) ∧ v.Ok G
def SpOk (c : Nat) (o : Obj) : Prop := ∃ arr : Array Value, o = .cells arr 9 (0, 0) ∧ arr.size = c ∧ c ≤ maxLen

def KOk (G : Gh) (κ : Kd) (o : Obj) : Prop :=
  match κ.t with
  | 0 => False
  | 1 => NodeOk G κ.x o
  | 2 => RecOk G κ.x o
  | 3 => PeerOk G κ.x κ.s o
  | 4 => PmOk G κ.x o
  | 5 => QmOk G κ.x o
  | 6 => NwOk G o
  | 7 => CapOk G κ.x o
  | 8 => ParOk G κ.x κ.n κ.c o
  | 9 => EArr G κ.n o
  | 10 => SArr κ.n o
  | 11 => UArr κ.n o
  | 12 => IdsArr κ.c κ.l o
  | 13 => MsgOk G o
  | 14 => o = κ.o
  | 16 => SpOk κ.c o
  | _ => True

/-! ### the order -/
def kUp (a b : Kd) : Prop := a = b ∨ ∃ x n n' c, a = kPar x n c ∧ b = kPar x n' c ∧ n ≤ n' ∧ n' ≤ c
/-- one ghost goes on from another, all told things as they were -/
structure Ext (G G' : Gh) : Prop where
  k : G'.k = G.k
  lay : G'.lay = G.lay
  rd : G'.rd = G.rd
  rs : G'.rs = G.rs
  qs : G'.qs = G.qs
  bn : G'.bn = G.bn
  t : G.t ≤ G'.t
  kd : ∀ b, (G.kd b).t = 0 ∨ (G.kd b).t = 14 ∨ (G.kd b).t = 15 ∨ kUp (G.kd b) (G'.kd b)

theorem Ext.up {G G' : Gh} (E : Ext G G') {b : Nat} {κ : Kd} (h : G.kd b = κ) (h0 : κ.t ≠ 0) (h1 : κ.t ≠ 14) (h2 : κ.t ≠ 15) (h3 : κ.t ≠ 8) : G'.kd b = κ := by
  rcases E.kd b with h | h' | h' | h'
  · exact absurd (by simp_all) h0
  · exact absurd (by simp_all) h1
  · exact absurd (by simp_all) h2
  · rcases h' with h' | ⟨x, n, n', c, h', _⟩
    · rw [← h', h]
    · exact absurd (by rw [← h, h']) h3
theorem ID.ext {G G' : Gh} (E : Ext G G') {s} (h : ID G s) : ID G' s := by obtain ⟨i, h1, h2⟩ := h; exact ⟨i, by rw [E.k]; exact h1, h2⟩
theorem EntOk.ext {G G' : Gh} (E : Ext G G') {v} (h : EntOk G v) : EntOk G' v := by
  rcases h with h | ⟨b, n, c, h1, h2, h3⟩
  · exact .inl h
  · exact .inr ⟨b, n, c, h1, E.up h2 (by simp) (by simp) (by simp) (by simp), h3⟩
theorem AnsOk.ext {G G' : Gh} (E : Ext G G') {u v} (h : AnsOk G u v) : AnsOk G' u v := by
  rcases h with h | ⟨b1, b2, n, c1, c2, h1, h2, h3, h4, h5⟩
  · exact .inl h
  · exact .inr ⟨b1, b2, n, c1, c2, h1, h2, E.up h3 (by simp) (by simp) (by simp) (by simp), E.up h4 (by simp) (by simp) (by simp) (by simp), h5⟩
theorem ByOk.ext {G G' : Gh} (E : Ext G G') {x v} (h : ByOk G x v) : ByOk G' x v := by
  obtain ⟨b, n, n', c, h1, h2, h3, h4, h5⟩ := h
  rcases E.kd b with h | h | h | h
  · rw [h2] at h; exact absurd h (by simp)
  · rw [h2] at h; exact absurd h (by simp)
  · rw [h2] at h; exact absurd h (by simp)
  · rcases h with h | ⟨x', m, m', c', e1, e2, e3, e4⟩
    · exact ⟨b, n, n', c, h1, by rw [← h, h2], h3, h4, by rw [E.bn]; exact h5⟩
    · rw [h2] at e1
      simp only [Kd.mk.injEq] at e1
      obtain ⟨_, rfl, rfl, rfl, _⟩ := e1
      exact ⟨b, n, m', c, h1, e2, by omega, e4, by rw [E.bn]; exact h5⟩
theorem IdsOk.ext {G G' : Gh} (E : Ext G G') {x v} (h : IdsOk G x v) : IdsOk G' x v := by
  rcases h with ⟨h, h'⟩ | ⟨b, c, h1, h2⟩
  · exact .inl ⟨h, by rw [E.rs]; exact h'⟩
  · exact .inr ⟨b, c, by rw [E.rs]; exact h1, by rw [E.rs]; exact E.up h2 (by simp) (by simp) (by simp) (by simp)⟩
theorem FrOk.ext {G G' : Gh} (E : Ext G G') {x v} (h : FrOk G x v) : FrOk G' x v := by
  rcases h with h | ⟨b, n, c, h1, h2, h3, h4⟩
  · exact .inl h
  · exact .inr ⟨b, n, c, h1, h2, Nat.le_trans h3 E.t, E.up h4 (by simp) (by simp) (by simp) (by simp)⟩
theorem NV.arr_ext {G G' : Gh} (E : Ext G G') (x : Nat) (v : NV) : v.arr G' x = v.arr G x := by unfold NV.arr; rw [E.lay, E.rd]
theorem NV.Ok.ext {G G' : Gh} (E : Ext G G') {x v} (h : NV.Ok G x v) : NV.Ok G' x v := ⟨h.by_.ext E, h.ca.ext E, h.ak0, by have := E.t; have := h.ak1; omega⟩
theorem MV.Ok.ext {G G' : Gh} (E : Ext G G') {v} (h : MV.Ok G v) : MV.Ok G' v := ⟨h.fr.ext E, h.ps.ext E, h.an.ext E⟩
theorem KOk.ext {G G' : Gh} (E : Ext G G') {κ o} (h : KOk G κ o) : KOk G' κ o := by
  obtain ⟨t, x, n, c, s, ob, ll⟩ := κ
  unfold KOk at h ⊢
  simp only at h ⊢
  have pe : ∀ {b : Nat} {x : Nat} {s : ByteArray}, G.kd b = kPeer x s → G'.kd b = kPeer x s := fun h => E.up h (by simp) (by simp) (by simp) (by simp)
  split at h
  · exact h
  · obtain ⟨v, h1, h2⟩ := h; exact ⟨v, by rw [v.arr_ext E]; exact h1, h2.ext E⟩
  · obtain ⟨u, v, h1, h2, h3⟩ := h; exact ⟨u, v, h1, h2.ext E, h3.ext E⟩
  · obtain ⟨v, h1, h2, h3⟩ := h; exact ⟨v, h1, h2.ext E, by rw [E.rd]; exact h3⟩
  · obtain ⟨es, c, h1, h2, h3, h4⟩ := h
    exact ⟨es, c, h1, h2, fun e he => by obtain ⟨s, b, k1, k2, k3⟩ := h3 e he; exact ⟨s, b, k1, k2, pe k3⟩, h4.1, by rw [E.bn]; exact h4.2⟩
  · obtain ⟨es, c, h1, h2, h3, h4⟩ := h
    exact ⟨es, c, h1, h2, fun e he => by obtain ⟨s, tg, su, k1, k2, k3, k4⟩ := h3 e he; exact ⟨s, tg, su, k1, k2, ⟨k3.1.ext E, k3.2⟩, by rw [E.qs]; exact k4⟩, by rw [E.qs]; exact h4⟩
  · obtain ⟨es, c, h1, h2, h3⟩ := h
    exact ⟨es, c, h1, h2, fun e he => by obtain ⟨s, u, k1, k2, k3⟩ := h3 e he; exact ⟨s, u, k1, k2, k3.ext E⟩⟩
  · unfold CapOk at h ⊢; rw [E.lay]; exact h
  · obtain ⟨arr, h1, h2, h3⟩ := h
    exact ⟨arr, h1, h2, fun i hi => by obtain ⟨b, s, k1, k2⟩ := h3 i hi; exact ⟨b, s, k1, pe k2⟩⟩
  · obtain ⟨arr, h1, h2⟩ := h
    exact ⟨arr, h1, fun i hi => by obtain ⟨s, tg, su, k1, k2⟩ := h2 i hi; exact ⟨s, tg, su, ⟨k1.1.ext E, k1.2⟩, k2⟩⟩
  · exact h
  · exact h
  · exact h
  · obtain ⟨v, h1, h2⟩ := h; exact ⟨v, h1, h2.ext E⟩
  · exact h
  · exact h
  · exact h

/-! ### the world -/
def sorted : List ByteArray → Prop := List.Pairwise (fun a b => ∃ i j, i < j ∧ j < 5 ∧ a = nm i ∧ b = nm j)
structure TypedE (E : Nat → Prop) (w : World) (G : Gh) : Prop where
  os : w.os = G.w0.os
  tape : w.tape = G.w0.tape
  output : w.output = G.w0.output
  ok : ∀ b o, w.heap[b]? = some o → ¬ E b → KOk G (G.kd b) o
  fr : ∀ b, w.heap.size ≤ b → G.kd b = kFree
  old : ∀ b o, G.w0.heap[b]? = some o → G.kd b = kEx o
  k5 : G.k ≤ 5
  tb : G.t ≤ 100000
  b5 : ∀ x, x < G.k → G.bn x ≤ 5
  nb : ∀ x, x < G.k → G.kd (G.lay x).nb = kNode x
  rb : ∀ x, x < G.k → G.kd (G.lay x).rb = kRec x
  sb : ∀ x, x < G.k → G.kd (G.lay x).sb = kPeer x (nm x)
  pm : ∀ x, x < G.k → G.kd (G.lay x).pm = kPm x
  qm : ∀ x, x < G.k → G.kd (G.lay x).qm = kQm x
  nw : ∀ x, x < G.k → G.kd (G.lay x).nw = kNw x
  cb : ∀ x, x < G.k → G.kd (G.lay x).cb = kCap x
  slf : ∀ x b, (G.kd b).t = 3 → (G.kd b).x = x → (G.kd b).s = nm x → b = (G.lay x).sb
  un : ∀ x b, (G.kd b).t = 1 → (G.kd b).x = x → b = (G.lay x).nb
  uq : ∀ x b, (G.kd b).t = 5 → (G.kd b).x = x → b = (G.lay x).qm
  ur : ∀ x b, (G.kd b).t = 2 → (G.kd b).x = x → b = (G.lay x).rb
  up : ∀ x b, (G.kd b).t = 4 → (G.kd b).x = x → b = (G.lay x).pm
  srt : ∀ x, x < G.k → sorted (G.rs x)
  rid : ∀ x, x < G.k → ∀ s, s ∈ G.rs x → ID G s ∧ s ≠ nm x
  qid : ∀ x, x < G.k → ∀ s, G.qs x s → ID G s ∧ s ≠ nm x

abbrev NoE : Nat → Prop := fun _ => False
abbrev Typed0 (w : World) (G : Gh) : Prop := TypedE NoE w G
theorem TypedE.lt {E w G} (T : TypedE E w G) {b κ} (h : G.kd b = κ) (h0 : κ.t ≠ 0) : b < w.heap.size := by
  rcases Nat.lt_or_ge b w.heap.size with h' | h'
  · exact h'
  · have := T.fr b h'; rw [h] at this; exact absurd (by rw [this]) h0
theorem TypedE.obj {E w G} (T : TypedE E w G) {b κ} (h : G.kd b = κ) (h0 : κ.t ≠ 0) (hE : ¬ E b) : ∃ o, w.heap[b]? = some o ∧ KOk G κ o := by
  have hl := T.lt h h0
  refine ⟨w.heap[b], by simp [hl], ?_⟩
  have := T.ok b w.heap[b] (by simp [hl]) hE
  rwa [h] at this
theorem TypedE.size {E w G} (T : TypedE E w G) : G.w0.heap.size ≤ w.heap.size := by
  rcases Nat.lt_or_ge w.heap.size G.w0.heap.size with h | h
  · have h1 := T.old w.heap.size _ (by simp [h] : G.w0.heap[w.heap.size]? = some G.w0.heap[w.heap.size])
    have h2 := T.fr w.heap.size (Nat.le_refl _)
    rw [h1] at h2
    exact absurd (congrArg Kd.t h2) (by simp)
  · exact h
theorem TypedE.below {w G} (T : Typed0 w G) : Below G.w0.heap.size G.w0 w := by
  refine ⟨T.os, T.tape, T.output, T.size, fun b hb => ?_⟩
  have h1 := T.old b _ (by simp [hb] : G.w0.heap[b]? = some G.w0.heap[b])
  obtain ⟨o, h2, h3⟩ := T.obj h1 (by simp) id
  have : o = G.w0.heap[b] := h3
  rw [h2, this]; simp [hb]

theorem TypedE.drewN {E w G} (T : TypedE E w G) (q : Nat) : TypedE E (w.drewN q) G := ⟨T.os, T.tape, T.output, T.ok, T.fr, T.old, T.k5, T.tb, T.b5, T.nb, T.rb, T.sb, T.pm, T.qm, T.nw, T.cb, T.slf, T.un, T.uq, T.ur, T.up, T.srt, T.rid, T.qid⟩
theorem TypedE.drew {E w G} (T : TypedE E w G) : TypedE E w.drew G := ⟨T.os, T.tape, T.output, T.ok, T.fr, T.old, T.k5, T.tb, T.b5, T.nb, T.rb, T.sb, T.pm, T.qm, T.nw, T.cb, T.slf, T.un, T.uq, T.ur, T.up, T.srt, T.rid, T.qid⟩

/-- another heap, block by block -/
theorem TypedE.heap {E E' : Nat → Prop} {w w' : World} {G} (T : TypedE E w G) (e1 : w'.os = w.os) (e2 : w'.tape = w.tape) (e3 : w'.output = w.output) (e4 : w'.heap.size = w.heap.size) (h : ∀ b o, w'.heap[b]? = some o → ¬ E' b → KOk G (G.kd b) o) : TypedE E' w' G :=
  ⟨e1.trans T.os, e2.trans T.tape, e3.trans T.output, h, by rw [e4]; exact T.fr, T.old, T.k5, T.tb, T.b5, T.nb, T.rb, T.sb, T.pm, T.qm, T.nw, T.cb, T.slf, T.un, T.uq, T.ur, T.up, T.srt, T.rid, T.qid⟩
/-- more blocks left out -/
theorem TypedE.weaken {E E' : Nat → Prop} {w : World} {G} (T : TypedE E w G) (h : ∀ b, E b → E' b) : TypedE E' w G := T.heap rfl rfl rfl rfl fun b o ho hE => T.ok b o ho fun e => hE (h b e)
/-- blocks taken in again -/
theorem TypedE.shut {E E' : Nat → Prop} {w : World} {G} (T : TypedE E w G) (h : ∀ b o, E b → ¬ E' b → w.heap[b]? = some o → KOk G (G.kd b) o) : TypedE E' w G := T.heap rfl rfl rfl rfl fun b o ho hE => by
  by_cases e : E b
  · exact h b o e hE ho
  · exact T.ok b o ho e
theorem heap_setCell (w : World) (b i : Nat) (v : Value) (b' : Nat) : (w.setCell ⟨b, i, none⟩ v).heap[b']? = if b' = b then (w.heap[b']?).map (fun o => match o with | .cells c e f => .cells (c.setIfInBounds i v) e f | o => o) else w.heap[b']? := by
  unfold World.setCell
  simp only [Array.getElem?_modify]
  by_cases h : b = b'
  · subst h; simp only [if_true]; cases w.heap[b]? with
    | none => rfl
    | some o => cases o <;> rfl
  · rw [if_neg h, if_neg (fun e => h e.symm)]
theorem TypedE.set {E} {w : World} {G} (T : TypedE E w G) {b i : Nat} {v : Value} (h : ¬ E b → ∀ c e f, KOk G (G.kd b) (.cells c e f) → KOk G (G.kd b) (.cells (c.setIfInBounds i v) e f)) : TypedE E (w.setCell ⟨b, i, none⟩ v) G := by
  refine T.heap rfl rfl rfl (by simp [World.setCell]) ?_
  intro b' o ho hE
  rw [heap_setCell] at ho
  by_cases hb : b' = b
  · subst hb
    rw [if_pos rfl] at ho
    cases hw : w.heap[b']? with
    | none => rw [hw] at ho; exact absurd ho (by simp)
    | some o1 =>
      rw [hw] at ho
      have h1 := T.ok b' o1 hw hE
      simp only [Option.map_some, Option.some.injEq] at ho
      subst ho
      split
      · exact h hE _ _ _ h1
      · exact h1
  · rw [if_neg hb] at ho; exact T.ok b' o ho hE
/-- a store into a block that is left out, or of which nothing is told -/
theorem TypedE.setE {E} {w : World} {G} (T : TypedE E w G) {b i : Nat} {v : Value} (h : E b ∨ (G.kd b).t = 15) : TypedE E (w.setCell ⟨b, i, none⟩ v) G := T.set fun hE c e f hk => by
  rcases h with h | h
  · exact absurd h hE
  · unfold KOk; rw [h]; trivial
/-- a block laid anew (a map's) -/
theorem TypedE.setObj {E} {w : World} {G} (T : TypedE E w G) {b : Nat} {o : Obj} (h : ¬ E b → KOk G (G.kd b) o) : TypedE E { w with heap := w.heap.setIfInBounds b o } G := by
  refine T.heap rfl rfl rfl (by simp) ?_
  intro b' o' ho hE
  by_cases hb : b' = b
  · subst hb
    rw [Array.getElem?_setIfInBounds] at ho
    simp only [if_true] at ho
    split at ho
    · cases ho; exact h hE
    · exact absurd ho (by simp)
  · rw [Array.getElem?_setIfInBounds_ne (fun e => hb e.symm)] at ho; exact T.ok b' o' ho hE

/-- a kind laid at block b -/
def Gh.put (G : Gh) (b : Nat) (κ : Kd) : Gh := { G with kd := fun i => if i = b then κ else G.kd i }
theorem Gh.put_at (G : Gh) (b : Nat) (κ : Kd) : (G.put b κ).kd b = κ := by simp [Gh.put]
theorem Gh.put_ne (G : Gh) {b i : Nat} (κ : Kd) (h : i ≠ b) : (G.put b κ).kd i = G.kd i := by simp [Gh.put, h]
theorem Ext.put {G : Gh} {b : Nat} (κ : Kd) (h : (G.kd b).t = 0 ∨ (G.kd b).t = 14 ∨ (G.kd b).t = 15) : Ext G (G.put b κ) := by
  refine ⟨rfl, rfl, rfl, rfl, rfl, rfl, Nat.le_refl _, fun i => ?_⟩
  by_cases hi : i = b
  · subst hi; rcases h with h | h | h
    · exact .inl h
    · exact .inr (.inl h)
    · exact .inr (.inr (.inl h))
  · exact .inr (.inr (.inr (.inl (by rw [G.put_ne κ hi]))))
theorem Ext.refl (G : Gh) : Ext G G := ⟨rfl, rfl, rfl, rfl, rfl, rfl, Nat.le_refl _, fun _ => .inr (.inr (.inr (.inl rfl)))⟩

/-- no second node, recorder, map of pairs, self -/
def Lone (κ : Kd) : Prop := κ.t ≠ 1 ∧ κ.t ≠ 2 ∧ κ.t ≠ 5 ∧ (κ.t = 3 → κ.s ≠ nm κ.x) ∧ κ.t ≠ 4
/-- a new block -/
theorem TypedE.alloc {E} {w : World} {G} (T : TypedE E w G) {o : Obj} (κ : Kd) (h : KOk (G.put w.heap.size κ) κ o) (hs : Lone κ) : TypedE E (w.alloc o) (G.put w.heap.size κ) := by
  have hf : G.kd w.heap.size = kFree := T.fr _ (Nat.le_refl _)
  have X : Ext G (G.put w.heap.size κ) := Ext.put κ (.inl (by rw [hf]))
  have nz : ∀ {b : Nat} {κ' : Kd}, G.kd b = κ' → κ'.t ≠ 0 → (G.put w.heap.size κ).kd b = κ' := fun {b κ'} hb h0 => by
    rw [G.put_ne κ (Nat.ne_of_lt (T.lt hb h0))]; exact hb
  have un : ∀ {b : Nat} {κ' : Kd}, (G.put w.heap.size κ).kd b = κ' → κ ≠ κ' → G.kd b = κ' := fun {b κ'} hb h1 => by
    by_cases h' : b = w.heap.size
    · subst h'; rw [Gh.put_at] at hb; exact absurd hb h1
    · rwa [G.put_ne κ h'] at hb
  have ut : ∀ {b t : Nat}, ((G.put w.heap.size κ).kd b).t = t → κ.t ≠ t → (G.put w.heap.size κ).kd b = G.kd b := fun {b t} hb h1 => by
    by_cases h' : b = w.heap.size
    · subst h'; rw [Gh.put_at] at hb; exact absurd hb h1
    · exact G.put_ne κ h'
  refine ⟨T.os, T.tape, T.output, ?_, ?_, ?_, T.k5, T.tb, T.b5, fun x hx => nz (T.nb x hx) (by simp), fun x hx => nz (T.rb x hx) (by simp), fun x hx => nz (T.sb x hx) (by simp), fun x hx => nz (T.pm x hx) (by simp), fun x hx => nz (T.qm x hx) (by simp), fun x hx => nz (T.nw x hx) (by simp), fun x hx => nz (T.cb x hx) (by simp), ?_, ?_, ?_, ?_, ?_, T.srt, ?_, ?_⟩
  · intro b o' ho hE
    by_cases hb : b = w.heap.size
    · subst hb
      rw [(MapKept.heap_alloc w o).1] at ho
      cases ho
      rw [Gh.put_at]; exact h
    · have hlt : b < w.heap.size := by
        have : b < (w.heap.push o).size := (Array.getElem?_eq_some_iff.1 ho).1
        simp at this; omega
      rw [(MapKept.heap_alloc w o).2 b hlt] at ho
      rw [G.put_ne κ hb]
      exact (T.ok b o' ho hE).ext X
  · intro b hb
    have : (w.alloc o).heap.size = w.heap.size + 1 := by show (w.heap.push o).size = _; simp
    rw [this] at hb
    rw [G.put_ne κ (by omega)]; exact T.fr b (by omega)
  · intro b o' ho
    exact nz (T.old b o' ho) (by simp)
  · intro x b hb hx hn
    by_cases h3 : κ.t = 3 ∧ κ.s = nm κ.x
    · exact absurd h3.2 (hs.2.2.2.1 h3.1)
    · by_cases h' : (G.put w.heap.size κ).kd b = G.kd b
      · rw [h'] at hb hx hn; exact T.slf x b hb hx hn
      · have : (G.put w.heap.size κ).kd b = κ := by
          by_cases h4 : b = w.heap.size
          · rw [h4, Gh.put_at]
          · exact absurd (G.put_ne κ h4) h'
        rw [this] at hb hx hn
        exact absurd ⟨hb, by rw [hn, hx]⟩ h3
  · intro x b hb hx; have e := ut hb hs.1; rw [e] at hb hx; exact T.un x b hb hx
  · intro x b hb hx; have e := ut hb hs.2.2.1; rw [e] at hb hx; exact T.uq x b hb hx
  · intro x b hb hx; have e := ut hb hs.2.1; rw [e] at hb hx; exact T.ur x b hb hx
  · intro x b hb hx; have e := ut hb hs.2.2.2.2; rw [e] at hb hx; exact T.up x b hb hx
  · intro x hx s hs'; obtain ⟨h1, h2⟩ := T.rid x hx s hs'; exact ⟨h1.ext X, h2⟩
  · intro x hx s hs'; obtain ⟨h1, h2⟩ := T.qid x hx s hs'; exact ⟨h1.ext X, h2⟩

/-- another kind for a block: what it is now is told to none that is not left out -/
theorem TypedE.rekind {E} {w : World} {G} (T : TypedE E w G) {b : Nat} (κ : Kd) (h0 : (G.kd b).t = 14 ∨ (G.kd b).t = 15 ∨ (((G.kd b).t = 12 ∨ (G.kd b).t = 16) ∧ E (G.lay (G.kd b).x).rb)) (hb : G.w0.heap.size ≤ b) (h : ∀ o, w.heap[b]? = some o → ¬ E b → KOk (G.put b κ) κ o) (hs : Lone κ) : TypedE E w (G.put b κ) := by
  have ne : ∀ {b' : Nat} {κ' : Kd}, G.kd b' = κ' → κ'.t ≠ 14 → κ'.t ≠ 15 → κ'.t ≠ 12 → κ'.t ≠ 16 → b' ≠ b := fun {b' κ'} hb' h1 h2 h3 h4 e => by
    subst e; rw [hb'] at h0; rcases h0 with h0 | h0 | ⟨h0 | h0, -⟩; exact h1 h0; exact h2 h0; exact h3 h0; exact h4 h0
  have nz : ∀ {b' : Nat} {κ' : Kd}, G.kd b' = κ' → κ'.t ≠ 14 → κ'.t ≠ 15 → κ'.t ≠ 12 → κ'.t ≠ 16 → (G.put b κ).kd b' = κ' := fun {b' κ'} hb' h1 h2 h3 h4 => by
    rw [G.put_ne κ (ne hb' h1 h2 h3 h4)]; exact hb'
  have un : ∀ {b' : Nat} {κ' : Kd}, (G.put b κ).kd b' = κ' → κ ≠ κ' → G.kd b' = κ' := fun {b' κ'} hb h1 => by
    by_cases h' : b' = b
    · subst h'; rw [Gh.put_at] at hb; exact absurd hb h1
    · rwa [G.put_ne κ h'] at hb
  have ut : ∀ {b' t : Nat}, ((G.put b κ).kd b').t = t → κ.t ≠ t → (G.put b κ).kd b' = G.kd b' := fun {b' t} hb h1 => by
    by_cases h' : b' = b
    · subst h'; rw [Gh.put_at] at hb; exact absurd hb h1
    · exact G.put_ne κ h'
  have hlt : b < w.heap.size := by rcases h0 with h0 | h0 | ⟨h0 | h0, -⟩ <;> exact T.lt rfl (by simp [h0])
  refine ⟨T.os, T.tape, T.output, ?_, ?_, ?_, T.k5, T.tb, T.b5, fun x hx => nz (T.nb x hx) (by simp) (by simp) (by simp) (by simp), fun x hx => nz (T.rb x hx) (by simp) (by simp) (by simp) (by simp), fun x hx => nz (T.sb x hx) (by simp) (by simp) (by simp) (by simp), fun x hx => nz (T.pm x hx) (by simp) (by simp) (by simp) (by simp), fun x hx => nz (T.qm x hx) (by simp) (by simp) (by simp) (by simp), fun x hx => nz (T.nw x hx) (by simp) (by simp) (by simp) (by simp), fun x hx => nz (T.cb x hx) (by simp) (by simp) (by simp) (by simp), ?_, ?_, ?_, ?_, ?_, T.srt, T.rid, T.qid⟩
  · intro b' o ho hE
    by_cases hb' : b' = b
    · subst hb'; rw [Gh.put_at]; exact h o ho hE
    · rw [G.put_ne κ hb']
      have hk := T.ok b' o ho hE
      rcases h0 with h0 | h0 | h0
      · exact hk.ext (Ext.put κ (.inr (.inl h0)))
      · exact hk.ext (Ext.put κ (.inr (.inr h0)))
      · -- the only ones that speak of such a block are the recorders
        generalize hκ : G.kd b' = κ' at hk
        obtain ⟨t, x, n, c, s, ob, ll⟩ := κ'
        unfold KOk at hk ⊢
        simp only at hk ⊢
        have up : ∀ {b1 : Nat} {κ1 : Kd}, G.kd b1 = κ1 → κ1.t ≠ 12 → κ1.t ≠ 16 → (G.put b κ).kd b1 = κ1 := fun {b1 κ1} hb1 h3 h4 => by
          have : b1 ≠ b := fun e => by
            have h5 := h0.1
            rw [← e, hb1] at h5
            rcases h5 with h5 | h5
            · exact h3 h5
            · exact h4 h5
          rw [G.put_ne κ this]; exact hb1
        have ent : ∀ {v}, EntOk G v → EntOk (G.put b κ) v := fun {v} h => by
          rcases h with h | ⟨b1, n, c, h1, h2, h3⟩
          · exact .inl h
          · exact .inr ⟨b1, n, c, h1, up h2 (by simp) (by simp), h3⟩
        split at hk
        · exact hk
        · obtain ⟨v, h1, h2⟩ := hk
          obtain ⟨b1, n1, n2, c1, k1, k2, k3⟩ := h2.by_
          exact ⟨v, h1, ⟨b1, n1, n2, c1, k1, up k2 (by simp) (by simp), k3⟩, ent h2.ca, h2.ak0, h2.ak1⟩
        · obtain ⟨u, v, h1, h2, h3⟩ := hk
          refine ⟨u, v, h1, ?_, ?_⟩
          · rcases h2 with h2 | ⟨b1, c1, k1, k2⟩
            · exact .inl h2
            · refine .inr ⟨b1, c1, k1, ?_⟩
              have : b1 ≠ b := fun e => by
                subst e
                rw [k2] at h0
                exact hE (by have := T.ur x b' (by rw [hκ]) (by rw [hκ]); rw [this]; exact h0.2)
              rw [G.put_ne κ this]; exact k2
          · rcases h3 with h3 | ⟨b1, n1, c1, k1, k2, k3, k4⟩
            · exact .inl h3
            · refine .inr ⟨b1, n1, c1, k1, k2, k3, ?_⟩
              have : b1 ≠ b := fun e => by
                subst e
                rw [k4] at h0
                exact hE (by have := T.ur x b' (by rw [hκ]) (by rw [hκ]); rw [this]; exact h0.2)
              rw [G.put_ne κ this]; exact k4
        · exact hk
        · obtain ⟨es, c, h1, h2, h3, h4⟩ := hk
          exact ⟨es, c, h1, h2, fun e he => by obtain ⟨s, b, k1, k2, k3⟩ := h3 e he; exact ⟨s, b, k1, k2, up k3 (by simp) (by simp)⟩, h4⟩
        · exact hk
        · exact hk
        · exact hk
        · obtain ⟨arr, h1, h2, h3⟩ := hk
          exact ⟨arr, h1, h2, fun i hi => by obtain ⟨b, s, k1, k2⟩ := h3 i hi; exact ⟨b, s, k1, up k2 (by simp) (by simp)⟩⟩
        · exact hk
        · exact hk
        · exact hk
        · exact hk
        · obtain ⟨v, h1, h2⟩ := hk
          refine ⟨v, h1, h2.fr, ent h2.ps, ?_⟩
          rcases h2.an with h | ⟨b1, b2, n, c1, c2, h1, h2, h3, h4, h5⟩
          · exact .inl h
          · exact .inr ⟨b1, b2, n, c1, c2, h1, h2, up h3 (by simp) (by simp), up h4 (by simp) (by simp), h5⟩
        · exact hk
        · exact hk
        · exact hk
  · intro b' hb'; rw [G.put_ne κ (by omega)]; exact T.fr b' hb'
  · intro b' o ho
    have : b' < G.w0.heap.size := (Array.getElem?_eq_some_iff.1 ho).1
    rw [G.put_ne κ (by omega)]; exact T.old b' o ho
  · intro x b' hb hx hn
    by_cases h3 : κ.t = 3 ∧ κ.s = nm κ.x
    · exact absurd h3.2 (hs.2.2.2.1 h3.1)
    · by_cases h' : (G.put b κ).kd b' = G.kd b'
      · rw [h'] at hb hx hn; exact T.slf x b' hb hx hn
      · have : (G.put b κ).kd b' = κ := by
          by_cases h4 : b' = b
          · rw [h4, Gh.put_at]
          · exact absurd (G.put_ne κ h4) h'
        rw [this] at hb hx hn
        exact absurd ⟨hb, by rw [hn, hx]⟩ h3
  · intro x b hb hx; have e := ut hb hs.1; rw [e] at hb hx; exact T.un x b hb hx
  · intro x b hb hx; have e := ut hb hs.2.2.1; rw [e] at hb hx; exact T.uq x b hb hx
  · intro x b hb hx; have e := ut hb hs.2.1; rw [e] at hb hx; exact T.ur x b hb hx
  · intro x b hb hx; have e := ut hb hs.2.2.2.2; rw [e] at hb hx; exact T.up x b hb hx

/-- the pairs and the recorder say the same -/
def Agree (G : Gh) : Prop := ∀ x, x < G.k → ∀ s, G.qs x s ↔ s ∈ G.rs x
structure Typed (w : World) (G : Gh) : Prop where
  T : Typed0 w G
  A : Agree G

/-- what a call may do to the ghost -/
structure Le (c : Nat) (G G' : Gh) : Prop where
  k : G'.k = G.k
  w0 : G'.w0 = G.w0
  lay : G'.lay = G.lay
  t0 : G.t ≤ G'.t
  t1 : G'.t ≤ G.t + c
  kd : ∀ b, (G.kd b).t = 0 ∨ ((G.kd b).t = 12 ∨ (G.kd b).t = 16) ∨ kUp (G.kd b) (G'.kd b)
theorem Le.refl (G : Gh) : Le 0 G G := ⟨rfl, rfl, rfl, Nat.le_refl _, Nat.le_refl _, fun _ => .inr (.inr (.inl rfl))⟩
theorem kUp.trans {a b c : Kd} (h1 : kUp a b) (h2 : kUp b c) : kUp a c := by
  rcases h1 with rfl | ⟨x, n, n', c', rfl, rfl, h3, h4⟩
  · exact h2
  · rcases h2 with rfl | ⟨x2, m, m', c2, e1, rfl, h5, h6⟩
    · exact .inr ⟨x, n, n', c', rfl, rfl, h3, h4⟩
    · simp only [Kd.mk.injEq] at e1
      obtain ⟨_, rfl, rfl, rfl, _⟩ := e1
      exact .inr ⟨x, n, m', c', rfl, rfl, by omega, h6⟩
theorem Le.trans {c d : Nat} {G G' G'' : Gh} (h1 : Le c G G') (h2 : Le d G' G'') : Le (c + d) G G'' := by
  refine ⟨h2.k.trans h1.k, h2.w0.trans h1.w0, h2.lay.trans h1.lay, Nat.le_trans h1.t0 h2.t0, by have := h1.t1; have := h2.t1; omega, fun b => ?_⟩
  rcases h1.kd b with h | h | h
  · exact .inl h
  · exact .inr (.inl h)
  · rcases h2.kd b with h' | h' | h'
    · rcases h with h | ⟨x, n, n', c', e1, e2, _⟩
      · exact .inl (by rw [h]; exact h')
      · rw [e2] at h'; exact absurd h' (by simp)
    · rcases h with h | ⟨x, n, n', c', e1, e2, _⟩
      · exact .inr (.inl (by rw [h]; exact h'))
      · rw [e2] at h'; exact absurd h' (by simp)
    · exact .inr (.inr (h.trans h'))
theorem Le.mono {c d : Nat} {G G' : Gh} (h : Le c G G') (hd : c ≤ d) : Le d G G' := ⟨h.k, h.w0, h.lay, h.t0, Nat.le_trans h.t1 (by omega), h.kd⟩
theorem Le.up {c : Nat} {G G' : Gh} (E : Le c G G') {b : Nat} {κ : Kd} (h : G.kd b = κ) (h0 : κ.t ≠ 0) (h1 : κ.t ≠ 12) (h3 : κ.t ≠ 8) (h4 : κ.t ≠ 16 := by simp) : G'.kd b = κ := by
  rcases E.kd b with h' | h' | h'
  · exact absurd (by rw [← h]; exact h') h0
  · rcases h' with h' | h'
    · exact absurd (by rw [← h]; exact h') h1
    · exact absurd (by rw [← h]; exact h') h4
  · rcases h' with h' | ⟨x, n, n', c, h', _⟩
    · rw [← h', h]
    · exact absurd (by rw [← h, h']) h3
theorem Le.put {G : Gh} {b : Nat} (κ : Kd) (h : (G.kd b).t = 0) : Le 0 G (G.put b κ) := by
  refine ⟨rfl, rfl, rfl, Nat.le_refl _, Nat.le_refl _, fun i => ?_⟩
  by_cases hi : i = b
  · subst hi; exact .inl h
  · exact .inr (.inr (.inl (by rw [G.put_ne κ hi])))
theorem ID.le {c} {G G' : Gh} (E : Le c G G') {s} (h : ID G s) : ID G' s := by obtain ⟨i, h1, h2⟩ := h; exact ⟨i, by rw [E.k]; exact h1, h2⟩
theorem EntOk.le {c} {G G' : Gh} (E : Le c G G') {v} (h : EntOk G v) : EntOk G' v := by
  rcases h with h | ⟨b, n, c, h1, h2, h3⟩
  · exact .inl h
  · exact .inr ⟨b, n, c, h1, E.up h2 (by simp) (by simp) (by simp), h3⟩
theorem AnsOk.le {c} {G G' : Gh} (E : Le c G G') {u v} (h : AnsOk G u v) : AnsOk G' u v := by
  rcases h with h | ⟨b1, b2, n, c1, c2, h1, h2, h3, h4, h5⟩
  · exact .inl h
  · exact .inr ⟨b1, b2, n, c1, c2, h1, h2, E.up h3 (by simp) (by simp) (by simp), E.up h4 (by simp) (by simp) (by simp), h5⟩
theorem MV.Ok.le {c} {G G' : Gh} (E : Le c G G') {v} (h : MV.Ok G v) : MV.Ok G' v := ⟨h.fr.le E, h.ps.le E, h.an.le E⟩

/-! ### ghosts turned where their blocks are left out -/
theorem KOk.of_qs {G : Gh} {q : Nat → ByteArray → Prop} {κ o} (h : KOk G κ o) (hk : κ.t = 5 → q κ.x = G.qs κ.x) : KOk { G with qs := q } κ o := by
  obtain ⟨t, x, n, c, s, ob, ll⟩ := κ
  unfold KOk at h ⊢
  simp only at h hk ⊢
  split at h
  case h_6 =>
    obtain ⟨es, c, h1, h2, h3, h4⟩ := h
    have e := hk rfl
    exact ⟨es, c, h1, h2, fun e' he => by obtain ⟨s, tg, su, k1, k2, k3, k4⟩ := h3 e' he; exact ⟨s, tg, su, k1, k2, k3, by simp only []; rw [e]; exact k4⟩, by simp only []; rw [e]; exact h4⟩
  case h_2 => obtain ⟨v, k1, k2⟩ := h; exact ⟨v, k1, k2.by_, k2.ca, k2.ak0, k2.ak1⟩
  case h_14 => obtain ⟨v, k1, k2⟩ := h; exact ⟨v, k1, k2.fr, k2.ps, k2.an⟩
  all_goals exact h
theorem KOk.of_rs {G : Gh} {r : Nat → List ByteArray} {κ o} (h : KOk G κ o) (hk : κ.t = 2 → r κ.x = G.rs κ.x) : KOk { G with rs := r } κ o := by
  obtain ⟨t, x, n, c, s, ob, ll⟩ := κ
  unfold KOk at h ⊢
  simp only at h hk ⊢
  split at h
  case h_3 =>
    obtain ⟨u, v, h1, h2, h3⟩ := h
    have e := hk rfl
    refine ⟨u, v, h1, ?_, h3⟩
    unfold IdsOk at h2 ⊢
    simp only []
    rw [e]; exact h2
  case h_2 => obtain ⟨v, k1, k2⟩ := h; exact ⟨v, k1, k2.by_, k2.ca, k2.ak0, k2.ak1⟩
  case h_14 => obtain ⟨v, k1, k2⟩ := h; exact ⟨v, k1, k2.fr, k2.ps, k2.an⟩
  all_goals exact h
theorem KOk.of_rd {G : Gh} {r : Nat → Int} {κ o} (h : KOk G κ o) (h1 : κ.t = 1 → r κ.x = G.rd κ.x) (h3 : κ.t = 3 → κ.s = nm κ.x → r κ.x = G.rd κ.x) : KOk { G with rd := r } κ o := by
  obtain ⟨t, x, n, c, s, ob, ll⟩ := κ
  unfold KOk at h ⊢
  simp only at h h1 h3 ⊢
  split at h
  case h_2 =>
    obtain ⟨v, k1, k2⟩ := h
    refine ⟨v, ?_, k2.by_, k2.ca, k2.ak0, k2.ak1⟩
    unfold NV.arr at k1 ⊢
    simp only []
    rw [h1 rfl]; exact k1
  case h_4 =>
    obtain ⟨v, k1, k2, k3⟩ := h
    exact ⟨v, k1, k2, fun e => (k3 e).trans (h3 rfl e).symm⟩
  case h_14 => obtain ⟨v, k1, k2⟩ := h; exact ⟨v, k1, k2.fr, k2.ps, k2.an⟩
  all_goals exact h
theorem KOk.of_t {G : Gh} {t : Nat} {κ o} (h : KOk G κ o) (ht : G.t ≤ t) : KOk { G with t := t } κ o := by
  have X : Ext G { G with t := t } := by constructor <;> first | rfl | exact ht | exact fun _ => .inr (.inr (.inr (.inl rfl)))
  exact KOk.ext X h
theorem TypedE.to_t {E w G} (T : TypedE E w G) (t : Nat) (ht : G.t ≤ t) (htb : t ≤ 100000) : TypedE E w { G with t := t } :=
  ⟨T.os, T.tape, T.output, fun b o h1 h2 => (T.ok b o h1 h2).of_t ht, T.fr, T.old, T.k5, htb, T.b5, T.nb, T.rb, T.sb, T.pm, T.qm, T.nw, T.cb, T.slf, T.un, T.uq, T.ur, T.up, T.srt, T.rid, T.qid⟩
theorem TypedE.to_qs {E w G} (T : TypedE E w G) (x : Nat) (q : ByteArray → Prop) (hE : E (G.lay x).qm) (hq : x < G.k → ∀ s, q s → ID G s ∧ s ≠ nm x) : TypedE E w { G with qs := fun y => if y = x then q else G.qs y } := by
  refine ⟨T.os, T.tape, T.output, fun b o h1 h2 => (T.ok b o h1 h2).of_qs fun h5 => ?_, T.fr, T.old, T.k5, T.tb, T.b5, T.nb, T.rb, T.sb, T.pm, T.qm, T.nw, T.cb, T.slf, T.un, T.uq, T.ur, T.up, T.srt, T.rid, ?_⟩
  · by_cases e : (G.kd b).x = x
    · exact absurd (by rw [T.uq x b h5 e]; exact hE) h2
    · simp [e]
  · intro y hy s hs
    by_cases e : y = x
    · subst e; simp at hs; exact hq hy s hs
    · simp [e] at hs; exact T.qid y hy s hs
theorem TypedE.to_rs {E w G} (T : TypedE E w G) (x : Nat) (l : List ByteArray) (hE : E (G.lay x).rb) (h1 : x < G.k → sorted l) (h2 : x < G.k → ∀ s, s ∈ l → ID G s ∧ s ≠ nm x) : TypedE E w { G with rs := fun y => if y = x then l else G.rs y } := by
  refine ⟨T.os, T.tape, T.output, fun b o k1 k2 => (T.ok b o k1 k2).of_rs fun h5 => ?_, T.fr, T.old, T.k5, T.tb, T.b5, T.nb, T.rb, T.sb, T.pm, T.qm, T.nw, T.cb, T.slf, T.un, T.uq, T.ur, T.up, ?_, ?_, T.qid⟩
  · by_cases e : (G.kd b).x = x
    · exact absurd (by rw [T.ur x b h5 e]; exact hE) k2
    · simp [e]
  · intro y hy
    by_cases e : y = x
    · subst e; simp; exact h1 hy
    · simp [e]; exact T.srt y hy
  · intro y hy s hs
    by_cases e : y = x
    · subst e; simp at hs; exact h2 hy s hs
    · simp [e] at hs; exact T.rid y hy s hs
theorem TypedE.to_rd {E w G} (T : TypedE E w G) (x : Nat) (r : Int) (hE : E (G.lay x).nb) (hE2 : E (G.lay x).sb) : TypedE E w { G with rd := fun y => if y = x then r else G.rd y } := by
  refine ⟨T.os, T.tape, T.output, fun b o k1 k2 => (T.ok b o k1 k2).of_rd (fun h5 => ?_) (fun h5 h6 => ?_), T.fr, T.old, T.k5, T.tb, T.b5, T.nb, T.rb, T.sb, T.pm, T.qm, T.nw, T.cb, T.slf, T.un, T.uq, T.ur, T.up, T.srt, T.rid, T.qid⟩
  · by_cases e : (G.kd b).x = x
    · exact absurd (by rw [T.un x b h5 e]; exact hE) k2
    · simp [e]
  · by_cases e : (G.kd b).x = x
    · exact absurd (by rw [T.slf x b h5 e (by rw [h6, e])]; exact hE2) k2
    · simp [e]

theorem KOk.of_bn {G : Gh} {f : Nat → Nat} {κ o} (h : KOk G κ o) (h1 : ∀ x, G.bn x ≤ f x) (h4 : κ.t = 4 → f κ.x = G.bn κ.x) : KOk { G with bn := f } κ o := by
  obtain ⟨t, x, n, c, s, ob, ll⟩ := κ
  unfold KOk at h ⊢
  simp only at h h4 ⊢
  split at h
  case h_2 =>
    obtain ⟨v, k1, k2⟩ := h
    obtain ⟨b, n, n', c, j1, j2, j3, j4, j5⟩ := k2.by_
    exact ⟨v, k1, ⟨b, n, n', c, j1, j2, j3, j4, Nat.le_trans j5 (h1 x)⟩, k2.ca, k2.ak0, k2.ak1⟩
  case h_5 =>
    obtain ⟨es, c, k1, k2, k3, k4, k5⟩ := h
    exact ⟨es, c, k1, k2, k3, k4, k5.trans (h4 rfl).symm⟩
  case h_14 => obtain ⟨v, k1, k2⟩ := h; exact ⟨v, k1, k2.fr, k2.ps, k2.an⟩
  all_goals exact h
theorem TypedE.to_bn {E w G} (T : TypedE E w G) (x n : Nat) (hn : G.bn x ≤ n) (h5 : n ≤ 5) (hE : E (G.lay x).pm) : TypedE E w { G with bn := fun y => if y = x then n else G.bn y } := by
  refine ⟨T.os, T.tape, T.output, fun b o k1 k2 => (T.ok b o k1 k2).of_bn (fun y => ?_) (fun h4 => ?_), T.fr, T.old, T.k5, T.tb, fun y hy => ?_, T.nb, T.rb, T.sb, T.pm, T.qm, T.nw, T.cb, T.slf, T.un, T.uq, T.ur, T.up, T.srt, T.rid, T.qid⟩
  · show _ ≤ if y = x then n else G.bn y
    split
    · rename_i h; rw [h]; exact hn
    · exact Nat.le_refl _
  · show (if (G.kd b).x = x then n else G.bn (G.kd b).x) = _
    by_cases e : (G.kd b).x = x
    · exact absurd (by rw [T.up x b h4 e]; exact hE) k2
    · rw [if_neg e]
  · show (if y = x then n else G.bn y) ≤ 5
    split
    · exact h5
    · exact T.b5 y hy

/-! ### what a node's and a peer's cells hold -/
structure NC (w : World) (G : Gh) (x : Nat) (v : NV) : Prop where
  c0 : w.cell? ⟨(G.lay x).nb, 0, none⟩ = some (.string (nm x))
  c1 : w.cell? ⟨(G.lay x).nb, 1, none⟩ = some (.int .i64 v.lf)
  c2 : w.cell? ⟨(G.lay x).nb, 2, none⟩ = some (.int .i64 v.al)
  c3 : w.cell? ⟨(G.lay x).nb, 3, none⟩ = some (.func (.func 21) #[] #[.pointer (some ⟨(G.lay x).cb, 0, none⟩)])
  c4 : w.cell? ⟨(G.lay x).nb, 4, none⟩ = some (.map (some (G.lay x).pm))
  c5 : w.cell? ⟨(G.lay x).nb, 5, none⟩ = some (v.by_)
  c6 : w.cell? ⟨(G.lay x).nb, 6, none⟩ = some (.int .i64 v.kn)
  c7 : w.cell? ⟨(G.lay x).nb, 7, none⟩ = some (.int .i64 v.ak)
  c8 : w.cell? ⟨(G.lay x).nb, 8, none⟩ = some (.map (some (G.lay x).qm))
  c9 : w.cell? ⟨(G.lay x).nb, 9, none⟩ = some (v.ca)
  c10 : w.cell? ⟨(G.lay x).nb, 10, none⟩ = some (.int .u64 v.dg)
  c11 : w.cell? ⟨(G.lay x).nb, 11, none⟩ = some (.map (some (G.lay x).nw))
  c12 : w.cell? ⟨(G.lay x).nb, 12, none⟩ = some (.int .u64 (G.rd x))
  c13 : w.cell? ⟨(G.lay x).nb, 13, none⟩ = some (.int .i64 v.an)
  c14 : w.cell? ⟨(G.lay x).nb, 14, none⟩ = some (.bool v.wh)
  c15 : w.cell? ⟨(G.lay x).nb, 15, none⟩ = some (.int .u64 v.ch)
  c16 : w.cell? ⟨(G.lay x).nb, 16, none⟩ = some (.int .u64 v.ex)
  c17 : w.cell? ⟨(G.lay x).nb, 17, none⟩ = some (.int .u64 v.mi)
  c18 : w.cell? ⟨(G.lay x).nb, 18, none⟩ = some (.int .u64 v.lo)
  c19 : w.cell? ⟨(G.lay x).nb, 19, none⟩ = some (.int .u64 v.wa)
  c20 : w.cell? ⟨(G.lay x).nb, 20, none⟩ = some (.bool v.su)
  c21 : w.cell? ⟨(G.lay x).nb, 21, none⟩ = some (.bool v.sn)
  c22 : w.cell? ⟨(G.lay x).nb, 22, none⟩ = some (.bool v.un)
  c23 : w.cell? ⟨(G.lay x).nb, 23, none⟩ = some (.int .u64 v.pa)
  fz : ∀ i, w.frozen? ⟨(G.lay x).nb, i, none⟩ = false
structure PC (w : World) (b : Nat) (s : ByteArray) (v : PV) : Prop where
  c0 : w.cell? ⟨b, 0, none⟩ = some (.string s)
  c1 : w.cell? ⟨b, 1, none⟩ = some (.bool v.kn)
  c2 : w.cell? ⟨b, 2, none⟩ = some (.int .u64 v.as_)
  c3 : w.cell? ⟨b, 3, none⟩ = some (.int .u64 v.an)
  c4 : w.cell? ⟨b, 4, none⟩ = some (.bool v.he)
  c5 : w.cell? ⟨b, 5, none⟩ = some (.bool v.wh)
  c6 : w.cell? ⟨b, 6, none⟩ = some (.bool v.qu)
  c7 : w.cell? ⟨b, 7, none⟩ = some (.bool v.re)
  c8 : w.cell? ⟨b, 8, none⟩ = some (.int .u64 v.rd)
  c9 : w.cell? ⟨b, 9, none⟩ = some (.int .u64 v.si)
  c10 : w.cell? ⟨b, 10, none⟩ = some (.int .u64 v.wa)
  c11 : w.cell? ⟨b, 11, none⟩ = some (.bool v.su)
  c12 : w.cell? ⟨b, 12, none⟩ = some (.int .u64 v.un)
  c13 : w.cell? ⟨b, 13, none⟩ = some (.bool v.ao)
  c14 : w.cell? ⟨b, 14, none⟩ = some (.bool v.mo)
  fz : ∀ i, w.frozen? ⟨b, i, none⟩ = false
structure MC (w : World) (b : Nat) (v : MV) : Prop where
  c0 : w.cell? ⟨b, 0, none⟩ = some (.int .u8 v.kn)
  c1 : w.cell? ⟨b, 1, none⟩ = some (.string v.fr)
  c2 : w.cell? ⟨b, 2, none⟩ = some (.int .u64 v.rd)
  c3 : w.cell? ⟨b, 3, none⟩ = some (.int .u64 v.wa)
  c4 : w.cell? ⟨b, 4, none⟩ = some (.bool v.su)
  c5 : w.cell? ⟨b, 5, none⟩ = some (.int .u64 v.ho)
  c6 : w.cell? ⟨b, 6, none⟩ = some (.int .u64 v.dg)
  c7 : w.cell? ⟨b, 7, none⟩ = some (v.ps)
  c8 : w.cell? ⟨b, 8, none⟩ = some (v.an)
  c9 : w.cell? ⟨b, 9, none⟩ = some (v.rs)
  fz : ∀ i, w.frozen? ⟨b, i, none⟩ = false
theorem cell_of {w : World} {b : Nat} {arr : Array Value} {e : TypeId} {f : Nat × Nat} (h : w.heap[b]? = some (.cells arr e f)) (i : Nat) : w.cell? ⟨b, i, none⟩ = arr[i]? := by simp [World.cell?, h]
theorem fz_of {w : World} {b : Nat} {arr : Array Value} {e : TypeId} (h : w.heap[b]? = some (.cells arr e (0, 0))) (i : Nat) : w.frozen? ⟨b, i, none⟩ = false := by simp [World.frozen?, h]
theorem TypedE.node {E w G} (T : TypedE E w G) {x} (hx : x < G.k) (hE : ¬ E (G.lay x).nb) : ∃ v : NV, v.Ok G x ∧ NC w G x v := by
  obtain ⟨o, h1, v, rfl, h2⟩ := T.obj (T.nb x hx) (by simp) hE
  exact ⟨v, h2, (cell_of h1 _).trans rfl, (cell_of h1 _).trans rfl, (cell_of h1 _).trans rfl, (cell_of h1 _).trans rfl, (cell_of h1 _).trans rfl, (cell_of h1 _).trans rfl, (cell_of h1 _).trans rfl, (cell_of h1 _).trans rfl, (cell_of h1 _).trans rfl, (cell_of h1 _).trans rfl, (cell_of h1 _).trans rfl, (cell_of h1 _).trans rfl, (cell_of h1 _).trans rfl, (cell_of h1 _).trans rfl, (cell_of h1 _).trans rfl, (cell_of h1 _).trans rfl, (cell_of h1 _).trans rfl, (cell_of h1 _).trans rfl, (cell_of h1 _).trans rfl, (cell_of h1 _).trans rfl, (cell_of h1 _).trans rfl, (cell_of h1 _).trans rfl, (cell_of h1 _).trans rfl, (cell_of h1 _).trans rfl, fz_of h1⟩
theorem TypedE.peer {E w G} (T : TypedE E w G) {x s b} (h : G.kd b = kPeer x s) (hE : ¬ E b) : ∃ v : PV, ID G s ∧ (s = nm x → v.an = G.rd x) ∧ PC w b s v := by
  obtain ⟨o, h1, v, rfl, h2, h3⟩ := T.obj h (by simp) hE
  exact ⟨v, h2, h3, (cell_of h1 _).trans rfl, (cell_of h1 _).trans rfl, (cell_of h1 _).trans rfl, (cell_of h1 _).trans rfl, (cell_of h1 _).trans rfl, (cell_of h1 _).trans rfl, (cell_of h1 _).trans rfl, (cell_of h1 _).trans rfl, (cell_of h1 _).trans rfl, (cell_of h1 _).trans rfl, (cell_of h1 _).trans rfl, (cell_of h1 _).trans rfl, (cell_of h1 _).trans rfl, (cell_of h1 _).trans rfl, (cell_of h1 _).trans rfl, fz_of h1⟩
theorem TypedE.msg {E w G} (T : TypedE E w G) {b} (h : G.kd b = kMsg) (hE : ¬ E b) : ∃ v : MV, v.Ok G ∧ MC w b v := by
  obtain ⟨o, h1, v, rfl, h2⟩ := T.obj h (by simp) hE
  exact ⟨v, h2, (cell_of h1 _).trans rfl, (cell_of h1 _).trans rfl, (cell_of h1 _).trans rfl, (cell_of h1 _).trans rfl, (cell_of h1 _).trans rfl, (cell_of h1 _).trans rfl, (cell_of h1 _).trans rfl, (cell_of h1 _).trans rfl, (cell_of h1 _).trans rfl, (cell_of h1 _).trans rfl, fz_of h1⟩

/-! ### stores -/
theorem TypedE.n6 {E w G x} {z : Int} (T : TypedE E w G) (hx : x < G.k) : TypedE E (w.setCell ⟨(G.lay x).nb, 6, none⟩ (.int .i64 z)) G := by
  refine T.set fun _ c e f h => ?_
  rw [T.nb x hx] at h ⊢
  obtain ⟨v, h1, h2⟩ := h
  cases h1
  exact ⟨{ v with kn := z }, rfl, h2.by_, h2.ca, h2.ak0, h2.ak1⟩
theorem TypedE.n10 {E w G x} {z : Int} (T : TypedE E w G) (hx : x < G.k) : TypedE E (w.setCell ⟨(G.lay x).nb, 10, none⟩ (.int .u64 z)) G := by
  refine T.set fun _ c e f h => ?_
  rw [T.nb x hx] at h ⊢
  obtain ⟨v, h1, h2⟩ := h
  cases h1
  exact ⟨{ v with dg := z }, rfl, h2.by_, h2.ca, h2.ak0, h2.ak1⟩
theorem TypedE.n13 {E w G x} {z : Int} (T : TypedE E w G) (hx : x < G.k) : TypedE E (w.setCell ⟨(G.lay x).nb, 13, none⟩ (.int .i64 z)) G := by
  refine T.set fun _ c e f h => ?_
  rw [T.nb x hx] at h ⊢
  obtain ⟨v, h1, h2⟩ := h
  cases h1
  exact ⟨{ v with an := z }, rfl, h2.by_, h2.ca, h2.ak0, h2.ak1⟩
theorem TypedE.n14 {E w G x} {z : Bool} (T : TypedE E w G) (hx : x < G.k) : TypedE E (w.setCell ⟨(G.lay x).nb, 14, none⟩ (.bool z)) G := by
  refine T.set fun _ c e f h => ?_
  rw [T.nb x hx] at h ⊢
  obtain ⟨v, h1, h2⟩ := h
  cases h1
  exact ⟨{ v with wh := z }, rfl, h2.by_, h2.ca, h2.ak0, h2.ak1⟩
theorem TypedE.n15 {E w G x} {z : Int} (T : TypedE E w G) (hx : x < G.k) : TypedE E (w.setCell ⟨(G.lay x).nb, 15, none⟩ (.int .u64 z)) G := by
  refine T.set fun _ c e f h => ?_
  rw [T.nb x hx] at h ⊢
  obtain ⟨v, h1, h2⟩ := h
  cases h1
  exact ⟨{ v with ch := z }, rfl, h2.by_, h2.ca, h2.ak0, h2.ak1⟩
theorem TypedE.n16 {E w G x} {z : Int} (T : TypedE E w G) (hx : x < G.k) : TypedE E (w.setCell ⟨(G.lay x).nb, 16, none⟩ (.int .u64 z)) G := by
  refine T.set fun _ c e f h => ?_
  rw [T.nb x hx] at h ⊢
  obtain ⟨v, h1, h2⟩ := h
  cases h1
  exact ⟨{ v with ex := z }, rfl, h2.by_, h2.ca, h2.ak0, h2.ak1⟩
theorem TypedE.n17 {E w G x} {z : Int} (T : TypedE E w G) (hx : x < G.k) : TypedE E (w.setCell ⟨(G.lay x).nb, 17, none⟩ (.int .u64 z)) G := by
  refine T.set fun _ c e f h => ?_
  rw [T.nb x hx] at h ⊢
  obtain ⟨v, h1, h2⟩ := h
  cases h1
  exact ⟨{ v with mi := z }, rfl, h2.by_, h2.ca, h2.ak0, h2.ak1⟩
theorem TypedE.n18 {E w G x} {z : Int} (T : TypedE E w G) (hx : x < G.k) : TypedE E (w.setCell ⟨(G.lay x).nb, 18, none⟩ (.int .u64 z)) G := by
  refine T.set fun _ c e f h => ?_
  rw [T.nb x hx] at h ⊢
  obtain ⟨v, h1, h2⟩ := h
  cases h1
  exact ⟨{ v with lo := z }, rfl, h2.by_, h2.ca, h2.ak0, h2.ak1⟩
theorem TypedE.n19 {E w G x} {z : Int} (T : TypedE E w G) (hx : x < G.k) : TypedE E (w.setCell ⟨(G.lay x).nb, 19, none⟩ (.int .u64 z)) G := by
  refine T.set fun _ c e f h => ?_
  rw [T.nb x hx] at h ⊢
  obtain ⟨v, h1, h2⟩ := h
  cases h1
  exact ⟨{ v with wa := z }, rfl, h2.by_, h2.ca, h2.ak0, h2.ak1⟩
theorem TypedE.n20 {E w G x} {z : Bool} (T : TypedE E w G) (hx : x < G.k) : TypedE E (w.setCell ⟨(G.lay x).nb, 20, none⟩ (.bool z)) G := by
  refine T.set fun _ c e f h => ?_
  rw [T.nb x hx] at h ⊢
  obtain ⟨v, h1, h2⟩ := h
  cases h1
  exact ⟨{ v with su := z }, rfl, h2.by_, h2.ca, h2.ak0, h2.ak1⟩
theorem TypedE.n21 {E w G x} {z : Bool} (T : TypedE E w G) (hx : x < G.k) : TypedE E (w.setCell ⟨(G.lay x).nb, 21, none⟩ (.bool z)) G := by
  refine T.set fun _ c e f h => ?_
  rw [T.nb x hx] at h ⊢
  obtain ⟨v, h1, h2⟩ := h
  cases h1
  exact ⟨{ v with sn := z }, rfl, h2.by_, h2.ca, h2.ak0, h2.ak1⟩
theorem TypedE.n22 {E w G x} {z : Bool} (T : TypedE E w G) (hx : x < G.k) : TypedE E (w.setCell ⟨(G.lay x).nb, 22, none⟩ (.bool z)) G := by
  refine T.set fun _ c e f h => ?_
  rw [T.nb x hx] at h ⊢
  obtain ⟨v, h1, h2⟩ := h
  cases h1
  exact ⟨{ v with un := z }, rfl, h2.by_, h2.ca, h2.ak0, h2.ak1⟩
theorem TypedE.n23 {E w G x} {z : Int} (T : TypedE E w G) (hx : x < G.k) : TypedE E (w.setCell ⟨(G.lay x).nb, 23, none⟩ (.int .u64 z)) G := by
  refine T.set fun _ c e f h => ?_
  rw [T.nb x hx] at h ⊢
  obtain ⟨v, h1, h2⟩ := h
  cases h1
  exact ⟨{ v with pa := z }, rfl, h2.by_, h2.ca, h2.ak0, h2.ak1⟩
theorem TypedE.n5 {E w G x} {z : Value} (T : TypedE E w G) (hx : x < G.k) (hz : ByOk G x z) : TypedE E (w.setCell ⟨(G.lay x).nb, 5, none⟩ z) G := by
  refine T.set fun _ c e f h => ?_
  rw [T.nb x hx] at h ⊢
  obtain ⟨v, h1, h2⟩ := h
  cases h1
  exact ⟨{ v with by_ := z }, rfl, hz, h2.ca, h2.ak0, h2.ak1⟩
theorem TypedE.n9 {E w G x} {z : Value} (T : TypedE E w G) (hx : x < G.k) (hz : EntOk G z) : TypedE E (w.setCell ⟨(G.lay x).nb, 9, none⟩ z) G := by
  refine T.set fun _ c e f h => ?_
  rw [T.nb x hx] at h ⊢
  obtain ⟨v, h1, h2⟩ := h
  cases h1
  exact ⟨{ v with ca := z }, rfl, h2.by_, hz, h2.ak0, h2.ak1⟩
theorem TypedE.n7 {E w G x} {z : Int} (T : TypedE E w G) (hx : x < G.k) (h0 : 0 ≤ z) (h1 : z ≤ G.t) : TypedE E (w.setCell ⟨(G.lay x).nb, 7, none⟩ (.int .i64 z)) G := by
  refine T.set fun _ c e f h => ?_
  rw [T.nb x hx] at h ⊢
  obtain ⟨v, h1, h2⟩ := h
  cases h1
  exact ⟨{ v with ak := z }, rfl, h2.by_, h2.ca, h0, by assumption⟩
theorem TypedE.p1 {E w G x s b} {z : Bool} (T : TypedE E w G) (hb : G.kd b = kPeer x s) : TypedE E (w.setCell ⟨b, 1, none⟩ (.bool z)) G := by
  refine T.set fun _ c e f h => ?_
  rw [hb] at h ⊢
  obtain ⟨v, h1, h2, h3⟩ := h
  cases h1
  exact ⟨{ v with kn := z }, rfl, h2, h3⟩
theorem TypedE.p2 {E w G x s b} {z : Int} (T : TypedE E w G) (hb : G.kd b = kPeer x s) : TypedE E (w.setCell ⟨b, 2, none⟩ (.int .u64 z)) G := by
  refine T.set fun _ c e f h => ?_
  rw [hb] at h ⊢
  obtain ⟨v, h1, h2, h3⟩ := h
  cases h1
  exact ⟨{ v with as_ := z }, rfl, h2, h3⟩
theorem TypedE.p4 {E w G x s b} {z : Bool} (T : TypedE E w G) (hb : G.kd b = kPeer x s) : TypedE E (w.setCell ⟨b, 4, none⟩ (.bool z)) G := by
  refine T.set fun _ c e f h => ?_
  rw [hb] at h ⊢
  obtain ⟨v, h1, h2, h3⟩ := h
  cases h1
  exact ⟨{ v with he := z }, rfl, h2, h3⟩
theorem TypedE.p5 {E w G x s b} {z : Bool} (T : TypedE E w G) (hb : G.kd b = kPeer x s) : TypedE E (w.setCell ⟨b, 5, none⟩ (.bool z)) G := by
  refine T.set fun _ c e f h => ?_
  rw [hb] at h ⊢
  obtain ⟨v, h1, h2, h3⟩ := h
  cases h1
  exact ⟨{ v with wh := z }, rfl, h2, h3⟩
theorem TypedE.p6 {E w G x s b} {z : Bool} (T : TypedE E w G) (hb : G.kd b = kPeer x s) : TypedE E (w.setCell ⟨b, 6, none⟩ (.bool z)) G := by
  refine T.set fun _ c e f h => ?_
  rw [hb] at h ⊢
  obtain ⟨v, h1, h2, h3⟩ := h
  cases h1
  exact ⟨{ v with qu := z }, rfl, h2, h3⟩
theorem TypedE.p7 {E w G x s b} {z : Bool} (T : TypedE E w G) (hb : G.kd b = kPeer x s) : TypedE E (w.setCell ⟨b, 7, none⟩ (.bool z)) G := by
  refine T.set fun _ c e f h => ?_
  rw [hb] at h ⊢
  obtain ⟨v, h1, h2, h3⟩ := h
  cases h1
  exact ⟨{ v with re := z }, rfl, h2, h3⟩
theorem TypedE.p8 {E w G x s b} {z : Int} (T : TypedE E w G) (hb : G.kd b = kPeer x s) : TypedE E (w.setCell ⟨b, 8, none⟩ (.int .u64 z)) G := by
  refine T.set fun _ c e f h => ?_
  rw [hb] at h ⊢
  obtain ⟨v, h1, h2, h3⟩ := h
  cases h1
  exact ⟨{ v with rd := z }, rfl, h2, h3⟩
theorem TypedE.p9 {E w G x s b} {z : Int} (T : TypedE E w G) (hb : G.kd b = kPeer x s) : TypedE E (w.setCell ⟨b, 9, none⟩ (.int .u64 z)) G := by
  refine T.set fun _ c e f h => ?_
  rw [hb] at h ⊢
  obtain ⟨v, h1, h2, h3⟩ := h
  cases h1
  exact ⟨{ v with si := z }, rfl, h2, h3⟩
theorem TypedE.p10 {E w G x s b} {z : Int} (T : TypedE E w G) (hb : G.kd b = kPeer x s) : TypedE E (w.setCell ⟨b, 10, none⟩ (.int .u64 z)) G := by
  refine T.set fun _ c e f h => ?_
  rw [hb] at h ⊢
  obtain ⟨v, h1, h2, h3⟩ := h
  cases h1
  exact ⟨{ v with wa := z }, rfl, h2, h3⟩
theorem TypedE.p11 {E w G x s b} {z : Bool} (T : TypedE E w G) (hb : G.kd b = kPeer x s) : TypedE E (w.setCell ⟨b, 11, none⟩ (.bool z)) G := by
  refine T.set fun _ c e f h => ?_
  rw [hb] at h ⊢
  obtain ⟨v, h1, h2, h3⟩ := h
  cases h1
  exact ⟨{ v with su := z }, rfl, h2, h3⟩
theorem TypedE.p12 {E w G x s b} {z : Int} (T : TypedE E w G) (hb : G.kd b = kPeer x s) : TypedE E (w.setCell ⟨b, 12, none⟩ (.int .u64 z)) G := by
  refine T.set fun _ c e f h => ?_
  rw [hb] at h ⊢
  obtain ⟨v, h1, h2, h3⟩ := h
  cases h1
  exact ⟨{ v with un := z }, rfl, h2, h3⟩
theorem TypedE.p13 {E w G x s b} {z : Bool} (T : TypedE E w G) (hb : G.kd b = kPeer x s) : TypedE E (w.setCell ⟨b, 13, none⟩ (.bool z)) G := by
  refine T.set fun _ c e f h => ?_
  rw [hb] at h ⊢
  obtain ⟨v, h1, h2, h3⟩ := h
  cases h1
  exact ⟨{ v with ao := z }, rfl, h2, h3⟩
theorem TypedE.p14 {E w G x s b} {z : Bool} (T : TypedE E w G) (hb : G.kd b = kPeer x s) : TypedE E (w.setCell ⟨b, 14, none⟩ (.bool z)) G := by
  refine T.set fun _ c e f h => ?_
  rw [hb] at h ⊢
  obtain ⟨v, h1, h2, h3⟩ := h
  cases h1
  exact ⟨{ v with mo := z }, rfl, h2, h3⟩
theorem TypedE.p3 {E w G x s b} {z : Int} (T : TypedE E w G) (hb : G.kd b = kPeer x s) (hz : s = nm x → z = G.rd x) : TypedE E (w.setCell ⟨b, 3, none⟩ (.int .u64 z)) G := by
  refine T.set fun _ c e f h => ?_
  rw [hb] at h ⊢
  obtain ⟨v, h1, h2, h3⟩ := h
  cases h1
  exact ⟨{ v with an := z }, rfl, h2, hz⟩
end Go.Proofs.Qxb6002353a
