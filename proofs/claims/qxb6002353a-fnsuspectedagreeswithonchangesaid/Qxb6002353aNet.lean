/-
  SEAT b6002353a: BuildNet.
-/
import Derived.Test.Qxb6002353aBorn
import Derived.Laws.EntriesVeiled
namespace Go.Proofs.Qxb6002353a
open Go.RowKit
set_option linter.unusedVariables false
set_option linter.unusedSimpArgs false

theorem neq26 (a : Addr) (n c : Nat) (w : World) : (binOp .neq 26 (.slice (some a) n c) (.slice none 0 0)).run Try.prog w = .ok (.bool true) w := by kernel_rfl
theorem info34 : (Try.prog.info? 34).map (fun i => (i.zero, i.size, i.bytes)) = some (some (.pointer none), 1, 8) := by kernel_rfl

theorem alloc_at (w : World) (o : Obj) {n : Nat} (h : w.heap.size = n) : (w.alloc o).heap[n]? = some o := by rw [← h]; exact (MapKept.heap_alloc w o).1
theorem alloc_sz (w : World) (o : Obj) {n : Nat} (h : w.heap.size = n) : (w.alloc o).heap.size = n + 1 := by rw [alloc_size, h]
theorem alloc_old (w : World) (o : Obj) {n b : Nat} (h : w.heap.size = n) (hb : b < n) : (w.alloc o).heap[b]? = w.heap[b]? := alloc_lt _ _ (by omega)

/-- what New lays, block by block -/
theorem newWorld_facts (w : World) (s : ByteArray) (lf al : Int) (cb S : Nat) (h : w.heap.size = S + 3) (hc : cb = S + 2) :
    (newWorld w s lf al cb).heap.size = S + 10 ∧ (∀ b, b < S + 3 → (newWorld w s lf al cb).heap[b]? = w.heap[b]?) ∧
    (newWorld w s lf al cb).heap[S + 4]? = some (.cells (peerA s) 73 (0, 0)) ∧
    (newWorld w s lf al cb).heap[S + 5]? = some (.map #[{ key := .string s, val := .pointer (some ⟨S + 4, 0, none⟩), born := 0 }] 1) ∧
    (newWorld w s lf al cb).heap[S + 6]? = some (.cells #[.pointer (some ⟨S + 4, 0, none⟩)] 74 (0, 0)) ∧
    (newWorld w s lf al cb).heap[S + 7]? = some (.map #[] 0) ∧ (newWorld w s lf al cb).heap[S + 8]? = some (.map #[] 0) ∧
    (newWorld w s lf al cb).heap[S + 9]? = some (.cells (nodeA S s lf al) 64 (0, 0)) := by
  subst hc
  unfold newWorld
  rw [h]
  generalize hA : w.alloc (.cells #[.int .i64 lf, .int .i64 al, .func (.func 21) #[] #[.pointer (some ⟨S + 2, 0, none⟩)]] 55) = A
  have s1 : A.heap.size = S + 4 := by rw [← hA]; exact alloc_sz _ _ h
  have a1 : ∀ b, b < S + 3 → A.heap[b]? = w.heap[b]? := fun b hb => by rw [← hA]; exact alloc_old _ _ h hb
  have s2 := fun o => alloc_sz A o s1
  have s3 := fun o1 o2 => alloc_sz (A.alloc o1) o2 (s2 o1)
  have s4 := fun o1 o2 o3 => alloc_sz ((A.alloc o1).alloc o2) o3 (s3 o1 o2)
  have s5 := fun o1 o2 o3 o4 => alloc_sz (((A.alloc o1).alloc o2).alloc o3) o4 (s4 o1 o2 o3)
  have s6 := fun o1 o2 o3 o4 o5 => alloc_sz ((((A.alloc o1).alloc o2).alloc o3).alloc o4) o5 (s5 o1 o2 o3 o4)
  have s7 := fun o1 o2 o3 o4 o5 o6 => alloc_sz (((((A.alloc o1).alloc o2).alloc o3).alloc o4).alloc o5) o6 (s6 o1 o2 o3 o4 o5)
  refine ⟨s7 _ _ _ _ _ _, fun b hb => ?_, ?_, ?_, ?_, ?_, ?_, ?_⟩
  · rw [alloc_old _ _ (s6 _ _ _ _ _) (by omega), alloc_old _ _ (s5 _ _ _ _) (by omega), alloc_old _ _ (s4 _ _ _) (by omega), alloc_old _ _ (s3 _ _) (by omega), alloc_old _ _ (s2 _) (by omega), alloc_old _ _ s1 (by omega), a1 b hb]
  · rw [alloc_old _ _ (s6 _ _ _ _ _) (by omega), alloc_old _ _ (s5 _ _ _ _) (by omega), alloc_old _ _ (s4 _ _ _) (by omega), alloc_old _ _ (s3 _ _) (by omega), alloc_old _ _ (s2 _) (by omega)]
    exact alloc_at _ _ s1
  · rw [alloc_old _ _ (s6 _ _ _ _ _) (by omega), alloc_old _ _ (s5 _ _ _ _) (by omega), alloc_old _ _ (s4 _ _ _) (by omega), alloc_old _ _ (s3 _ _) (by omega)]
    exact alloc_at _ _ (s2 _)
  · rw [alloc_old _ _ (s6 _ _ _ _ _) (by omega), alloc_old _ _ (s5 _ _ _ _) (by omega), alloc_old _ _ (s4 _ _ _) (by omega)]
    exact alloc_at _ _ (s3 _ _)
  · rw [alloc_old _ _ (s6 _ _ _ _ _) (by omega), alloc_old _ _ (s5 _ _ _ _) (by omega)]
    exact alloc_at _ _ (s4 _ _ _)
  · rw [alloc_old _ _ (s6 _ _ _ _ _) (by omega)]
    exact alloc_at _ _ (s5 _ _ _ _)
  · exact alloc_at _ _ (s6 _ _ _ _ _)

/-- the world of a round, ahead of New -/
def roundWorld (W : World) (rcb i S : Nat) (lf al : Int) : World :=
  (((W.setCell ⟨rcb, i, none⟩ (.pointer (some ⟨S + 1, 0, none⟩))).alloc (.cells #[.int .i64 lf, .int .i64 al, .func (.func 21) #[] #[.pointer (some ⟨S + 2, 0, none⟩)]] 55)).alloc
    (.cells #[.slice none 0 0, .bool false, .slice none 0 0] 38)).alloc (.cells #[.pointer (some ⟨S + 1, 0, none⟩)] 36)
theorem roundWorld_facts {W : World} {rcb i S : Nat} {lf al : Int} {ra : Array Value} (h : W.heap.size = S) (hrc : W.heap[rcb]? = some (.cells ra 36 (0, 0))) (hlt : rcb < S) :
    (roundWorld W rcb i S lf al).heap.size = S + 3 ∧ (∀ b, b < S → b ≠ rcb → (roundWorld W rcb i S lf al).heap[b]? = W.heap[b]?) ∧
    (roundWorld W rcb i S lf al).heap[rcb]? = some (.cells (ra.setIfInBounds i (.pointer (some ⟨S + 1, 0, none⟩))) 36 (0, 0)) ∧
    (roundWorld W rcb i S lf al).heap[S]? = some (.cells #[.int .i64 lf, .int .i64 al, .func (.func 21) #[] #[.pointer (some ⟨S + 2, 0, none⟩)]] 55 (0, 0)) ∧
    (roundWorld W rcb i S lf al).heap[S + 1]? = some (.cells #[.slice none 0 0, .bool false, .slice none 0 0] 38 (0, 0)) ∧
    (roundWorld W rcb i S lf al).heap[S + 2]? = some (.cells #[.pointer (some ⟨S + 1, 0, none⟩)] 36 (0, 0)) := by
  unfold roundWorld
  have s1 : (W.setCell ⟨rcb, i, none⟩ (.pointer (some ⟨S + 1, 0, none⟩))).heap.size = S := by rw [size_set, h]
  have s2 := fun o => alloc_sz _ o s1
  have s3 := fun o1 o2 => alloc_sz _ o2 (s2 o1)
  have s4 := fun o1 o2 o3 => alloc_sz _ o3 (s3 o1 o2)
  refine ⟨s4 _ _ _, fun b hb hne => ?_, ?_, ?_, ?_, ?_⟩
  · rw [alloc_old _ _ (s3 _ _) (by omega), alloc_old _ _ (s2 _) (by omega), alloc_old _ _ s1 hb, setCell_other hne]
  · rw [alloc_old _ _ (s3 _ _) (by omega), alloc_old _ _ (s2 _) (by omega), alloc_old _ _ s1 hlt]
    exact setCell_at hrc
  · rw [alloc_old _ _ (s3 _ _) (by omega), alloc_old _ _ (s2 _) (by omega)]
    exact alloc_at _ _ s1
  · rw [alloc_old _ _ (s3 _ _) (by omega)]
    exact alloc_at _ _ (s2 _)
  · exact alloc_at _ _ (s3 _ _)

theorem set_meta (w : World) (a : Addr) (v : Value) : (w.setCell a v).os = w.os ∧ (w.setCell a v).tape = w.tape ∧ (w.setCell a v).output = w.output := ⟨rfl, rfl, rfl⟩
theorem alloc_meta (w : World) (o : Obj) : (w.alloc o).os = w.os ∧ (w.alloc o).tape = w.tape ∧ (w.alloc o).output = w.output := ⟨rfl, rfl, rfl⟩
theorem new_meta (w : World) (s : ByteArray) (lf al : Int) (cb : Nat) : (newWorld w s lf al cb).os = w.os ∧ (newWorld w s lf al cb).tape = w.tape ∧ (newWorld w s lf al cb).output = w.output := by
  unfold newWorld
  simp only [alloc_meta, and_self]
theorem round_meta (W : World) (rcb i S : Nat) (lf al : Int) : (roundWorld W rcb i S lf al).os = W.os ∧ (roundWorld W rcb i S lf al).tape = W.tape ∧ (roundWorld W rcb i S lf al).output = W.output := by
  unfold roundWorld
  simp only [alloc_meta, set_meta, and_self]
theorem Desc.next {wb : World} {B rcb nbk k i : Nat} {lf al : Int} {W : World} (D : Desc wb B rcb nbk k lf al i W) (hi : i < k) (hr : rcb < B) (hn : nbk < B) (hne : rcb ≠ nbk) :
    Desc wb B rcb nbk k lf al (i + 1) ((newWorld (roundWorld W rcb i (B + 10 * i) lf al).drew (nm i) lf al (B + 10 * i + 2)).setCell ⟨nbk, i, none⟩ (.pointer (some ⟨B + 10 * i + 9, 0, none⟩))) := by
  obtain ⟨ra, r1, r2, r3⟩ := D.rc
  obtain ⟨na, n1, n2, n3⟩ := D.nd
  obtain ⟨a1, a2, a3, a4, a5, a6⟩ := roundWorld_facts (i := i) (lf := lf) (al := al) D.size r1 (by omega)
  obtain ⟨b1, b2, b4, b5, b6, b7, b8, b9⟩ := newWorld_facts (roundWorld W rcb i (B + 10 * i) lf al).drew (nm i) lf al (B + 10 * i + 2) (B + 10 * i) a1 rfl
  have old : ∀ b, b < B + 10 * i → b ≠ rcb → b ≠ nbk → ((newWorld (roundWorld W rcb i (B + 10 * i) lf al).drew (nm i) lf al (B + 10 * i + 2)).setCell ⟨nbk, i, none⟩ (.pointer (some ⟨B + 10 * i + 9, 0, none⟩))).heap[b]? = W.heap[b]? := fun b hb e1 e2 => by
    rw [setCell_other e2, b2 b (by omega)]
    exact a2 b hb e1
  have new : ∀ b, nbk ≠ b → ((newWorld (roundWorld W rcb i (B + 10 * i) lf al).drew (nm i) lf al (B + 10 * i + 2)).setCell ⟨nbk, i, none⟩ (.pointer (some ⟨B + 10 * i + 9, 0, none⟩))).heap[b]? = (newWorld (roundWorld W rcb i (B + 10 * i) lf al).drew (nm i) lf al (B + 10 * i + 2)).heap[b]? := fun b h => setCell_other h.symm
  have m1 := set_meta (newWorld (roundWorld W rcb i (B + 10 * i) lf al).drew (nm i) lf al (B + 10 * i + 2)) ⟨nbk, i, none⟩ (.pointer (some ⟨B + 10 * i + 9, 0, none⟩))
  have m2 := new_meta (roundWorld W rcb i (B + 10 * i) lf al).drew (nm i) lf al (B + 10 * i + 2)
  have m3 := round_meta W rcb i (B + 10 * i) lf al
  refine ⟨(m1.1.trans (m2.1.trans m3.1)).trans D.os, (m1.2.1.trans (m2.2.1.trans m3.2.1)).trans D.tape, (m1.2.2.trans (m2.2.2.trans m3.2.2)).trans D.output, by rw [size_set, b1]; omega, fun b hb e1 e2 => (old b (by omega) e1 e2).trans (D.old b hb e1 e2), ⟨ra.setIfInBounds i (.pointer (some ⟨B + 10 * i + 1, 0, none⟩)), ?_, by simp [r2], fun y hy => ?_⟩, ⟨na.setIfInBounds i (.pointer (some ⟨B + 10 * i + 9, 0, none⟩)), ?_, by simp [n2], fun y hy => ?_⟩, fun y hy => ?_⟩
  · rw [new rcb hne.symm, b2 rcb (by omega)]; exact a3
  · rw [Array.getElem?_setIfInBounds]
    by_cases e : i = y
    · subst e; rw [if_pos rfl, if_pos (by omega)]
    · rw [if_neg e]; exact r3 y (by omega)
  · refine setCell_at ?_
    rw [b2 nbk (by omega)]
    exact (a2 nbk (by omega) hne.symm).trans n1
  · rw [Array.getElem?_setIfInBounds]
    by_cases e : i = y
    · subst e; rw [if_pos rfl, if_pos (by omega)]
    · rw [if_neg e]; exact n3 y (by omega)
  · by_cases e : y = i
    · subst e
      refine ⟨?_, ?_, ?_, ?_, ?_, ?_, ?_, ?_⟩
      · rw [new _ (by omega), b2 _ (by omega)]; exact a5
      · rw [new _ (by omega), b2 _ (by omega)]; exact a6
      · rw [new _ (by omega)]; exact b4
      · rw [new _ (by omega)]; exact b5
      · rw [new _ (by omega)]; exact b6
      · rw [new _ (by omega)]; exact b7
      · rw [new _ (by omega)]; exact b8
      · rw [new _ (by omega)]; exact b9
    · exact (D.ob y (by omega)).of fun b h1 h2 => old b (by omega) (by omega) (by omega)

/-- the row of the recorders -/
def RecsOk (G : Gh) (b : Nat) : Prop := ∃ arr : Array Value, G.kd b = kEx (.cells arr 36 (0, 0)) ∧ ∀ x, x < G.k → arr[x]? = some (.pointer (some ⟨(G.lay x).rb, 0, none⟩))
theorem RecsOk.le {c G G' b} (h : RecsOk G b) (L : Le c G G') : RecsOk G' b := by
  obtain ⟨arr, h1, h2⟩ := h
  exact ⟨arr, L.up h1 (by simp) (by simp) (by simp), fun x hx => by rw [L.lay]; exact h2 x (by rw [← L.k]; exact hx)⟩
theorem RecsOk.cell {E w G b x} (h : RecsOk G b) (T : TypedE E w G) (hE : ¬ E b) (hx : x < G.k) : w.cell? ⟨b, x, none⟩ = some (.pointer (some ⟨(G.lay x).rb, 0, none⟩)) := by
  obtain ⟨arr, h1, h2⟩ := h
  exact (cell_of (T.exact h1 hE) _).trans (h2 x hx)

def NetPost (G : Gh) (rcb k : Nat) (e : Ending) (w' : World) : Prop := ∃ (nbk : Nat) (G' : Gh), e = .returned (.slice (some ⟨nbk, 0, none⟩) k k) ∧ Typed w' G' ∧ G'.k = k ∧ G'.t = 0 ∧ G'.w0 = G.w0 ∧ NodesOk G' nbk ∧ RecsOk G' rcb ∧ ∀ b o, b ≠ rcb → G.kd b = kEx o → G'.kd b = kEx o

set_option maxHeartbeats 4000000 in
set_option maxRecDepth 100000 in
theorem c8 {w : World} {G : Gh} {k rcb : Nat} {lf al : Int} {R : Array Value} (T : Typed w G) (P : Pl G) (hk : k ≤ 5) (hr : G.kd rcb = kEx (.cells R 36 (0, 0))) (hrb : G.w0.heap.size ≤ rcb) (hR : R.size = k) : Calls Try.prog 8 #[.int .i64 (k : Nat), .int .i64 lf, .int .i64 al, .slice (some ⟨rcb, 0, none⟩) k k] w fun e w' => NetPost G rcb k e w' := by
  have nl := neq26
  obtain ⟨NR, hNR, hm⟩ : ∃ R : Array Value, R.size = k ∧ ∀ w, (Instr.makeSlice 27 (.int .i64 (k : Int)) (.int .i64 (k : Int))).run Try.prog w = .ok (.slice (some ⟨w.heap.size, 0, none⟩) k k) (w.alloc (.cells R 34)) := by
    obtain ⟨ii, k1, k2, k3, k4⟩ := info_parts info34
    refine ⟨madeCells (Value.pointer none).cells k, size_madeCells _ _, fun w => ?_⟩
    have hr := run_make (P := Try.prog) w 27 34 ii _ Try.underlying27 k1 k2 .i64 .i64 k k (by omega) (by omega) (by rw [k4]; omega) (by omega)
    rw [k3] at hr
    simpa using hr
  have hro := T.T.exact hr id
  have hrl : rcb < w.heap.size := T.T.lt hr (by simp)
  have T1 := T.T.rekind (b := rcb) kAny (.inl (by rw [hr])) hrb (fun _ _ _ => trivial) ⟨by simp, by simp, by simp, by simp, by simp⟩
  have T2 : Typed (w.alloc (.cells NR 34)) ((G.put rcb kAny).put w.heap.size kAny) := ⟨T1.alloc kAny trivial ⟨by simp, by simp, by simp, by simp, by simp⟩, T.A⟩
  have P2 : Pl ((G.put rcb kAny).put w.heap.size kAny) := (P.put _ _ (.inr rfl)).put _ _ (.inr rfl)
  have k1 : (((G.put rcb kAny).put w.heap.size kAny).kd rcb).t = 15 := by rw [Gh.put_ne _ _ (by omega), Gh.put_at]
  have k2 : (((G.put rcb kAny).put w.heap.size kAny).kd w.heap.size).t = 15 := by rw [Gh.put_at]
  have k3 : ∀ b o, b ≠ rcb → G.kd b = kEx o → ((G.put rcb kAny).put w.heap.size kAny).kd b = kEx o ∧ b < w.heap.size + 1 := fun b o hb ho => by
    have hlt := T.T.lt ho (by simp)
    rw [Gh.put_ne _ _ (by omega), Gh.put_ne _ _ hb]; exact ⟨ho, by omega⟩
  have kw : ((G.put rcb kAny).put w.heap.size kAny).w0 = G.w0 := rfl
  have hsz0 := T.T.size
  have D0 : Desc (w.alloc (.cells NR 34)) (w.heap.size + 1) rcb w.heap.size k lf al 0 (w.alloc (.cells NR 34)) :=
    ⟨rfl, rfl, rfl, by rw [alloc_size], fun _ _ _ _ => rfl, ⟨R, (alloc_lt _ _ hrl).trans hro, hR, fun y hy => by omega⟩, ⟨NR, (MapKept.heap_alloc w _).1, hNR, fun y hy => by omega⟩, fun y hy => by omega⟩
  have hszb : (w.alloc (.cells NR 34)).heap.size = w.heap.size + 1 := alloc_size _ _
  generalize (G.put rcb kAny).put w.heap.size kAny = Gb at *
  generalize hW : w.alloc (.cells NR 34) = wb at *
  have AA := hid (And.intro T2 (And.intro P2 (And.intro k1 (And.intro k2 (And.intro k3 (And.intro kw (And.intro hszb (And.intro hrb hsz0))))))))
  have DD := hid D0
  clear T T1 T2 P P2 k1 k2 k3 kw D0 hszb hro hr hR hNR hrb hsz0
  generalize hnb : w.heap.size = nbk at *
  go_enter Try.func8, Try.ntmps8
  go_wp2_with fail
  clear hm hW hnb
  go_loopg [10] k (fun kk i wr => ∃ (j : Nat), j + kk = k ∧ i = .int .i64 j ∧ Desc wb (nbk + 1) rcb nbk k lf al j wr)
  case atStart => exact ⟨0, by omega, rfl, DD.out⟩
  case round =>
    obtain ⟨j, hj, rfl, D⟩ := hrel
    by_cases hlt : j < k
    · have hlt' : (j : Int) < (k : Int) := by omega
      obtain ⟨ra, ho, hsz, -⟩ := D.rc
      obtain ⟨na, n1, n2, -⟩ := D.nd
      obtain ⟨u, hu⟩ : ∃ u, wr.cell? ⟨rcb, j, none⟩ = some u := ⟨ra[j]'(by omega), (cell_of ho j).trans (by simp)⟩
      have rf := fz_of ho j
      have hS := D.size
      have hlt2 : rcb < wr.heap.size := by omega
      have ne1 : rcb ≠ wr.heap.size := by omega
      have ne2 : rcb ≠ wr.heap.size + 1 := by omega
      obtain ⟨a1, a2, a3, a4, a5, a6⟩ := roundWorld_facts (i := j) (lf := lf) (al := al) hS ho (by omega)
      have NX := hid (D.next hlt (by omega) (by omega) (by omega))
      have f0 := (cell_of a4 0).trans (rfl : _ = some (Value.int .i64 lf))
      have f1 := (cell_of a4 1).trans (rfl : _ = some (Value.int .i64 al))
      have f2 := (cell_of a4 2).trans (rfl : _ = some (Value.func (.func 21) #[] #[.pointer (some ⟨nbk + 1 + 10 * j + 2, 0, none⟩)]))
      obtain ⟨b1, b2, -⟩ := newWorld_facts (roundWorld wr rcb j (nbk + 1 + 10 * j) lf al).drew (nm j) lf al (nbk + 1 + 10 * j + 2) (nbk + 1 + 10 * j) a1 rfl
      have hno : (newWorld (roundWorld wr rcb j (nbk + 1 + 10 * j) lf al).drew (nm j) lf al (nbk + 1 + 10 * j + 2)).heap[nbk]? = some (.cells na 34 (0, 0)) := by
        rw [b2 nbk (by omega)]
        exact (a2 nbk (by omega) (by omega)).trans n1
      obtain ⟨u2, hu2⟩ : ∃ u, (newWorld (roundWorld wr rcb j (nbk + 1 + 10 * j) lf al).drew (nm j) lf al (nbk + 1 + 10 * j + 2)).cell? ⟨nbk, j, none⟩ = some u := ⟨na[j]'(by omega), (cell_of hno j).trans (by simp)⟩
      have nf2 := fz_of hno j
      have C23 : Hid (Calls Try.prog 23 #[.string (nm j), .agg #[.int .i64 lf, .int .i64 al, .func (.func 21) #[] #[.pointer (some ⟨nbk + 1 + 10 * j + 2, 0, none⟩)]]] (roundWorld wr rcb j (nbk + 1 + 10 * j) lf al).drew fun e w' => e = .returned (.pointer (some ⟨nbk + 1 + 10 * j + 9, 0, none⟩)) ∧ w' = newWorld (roundWorld wr rcb j (nbk + 1 + 10 * j) lf al).drew (nm j) lf al (nbk + 1 + 10 * j + 2)) := by
        have h := c23 (w := (roundWorld wr rcb j (nbk + 1 + 10 * j) lf al).drew) (s := nm j) (lf := lf) (al := al) (cb := nbk + 1 + 10 * j + 2)
        have e : (roundWorld wr rcb j (nbk + 1 + 10 * j) lf al).drew.heap.size + 6 = nbk + 1 + 10 * j + 9 := by
          show (roundWorld wr rcb j (nbk + 1 + 10 * j) lf al).heap.size + 6 = _
          rw [a1]
        rw [e] at h
        exact h
      have C24 := hid (c24 j (by omega) (roundWorld wr rcb j (nbk + 1 + 10 * j) lf al).drew)
      have J := hid hj
      clear D ho hsz n1 n2 a1 a2 a3 a4 a5 a6 b1 b2 hno hj
      generalize nbk + 1 + 10 * j = S at *
      subst hS
      generalize newWorld (roundWorld wr rcb j wr.heap.size lf al).drew (nm j) lf al (wr.heap.size + 2) = NW at *
      generalize hRW : roundWorld wr rcb j wr.heap.size lf al = RW at *
      have hRW' : (((wr.setCell ⟨rcb, j, none⟩ (.pointer (some ⟨wr.heap.size + 1, 0, none⟩))).alloc (.cells #[.int .i64 lf, .int .i64 al, .func (.func 21) #[] #[.pointer (some ⟨wr.heap.size + 1 + 1, 0, none⟩)]] 55)).alloc (.cells #[.slice none 0 0, .bool false, .slice none 0 0] 38)).alloc (.cells #[.pointer (some ⟨wr.heap.size + 1, 0, none⟩)] 36) = RW := hRW
      clear hRW
      go_upto_region 10 with fail
      clear hRW' hu rf
      go_region_with (first | (go_at_call 24; refine C24.out.mono ?_; rintro e w6 ⟨rfl, rfl⟩) | (go_at_call 23; refine C23.out.mono ?_; rintro e w6 ⟨rfl, rfl⟩))
      all_goals
        go_wp2_with fail
        go_roundg (gk - 1)
        case measure => have := J.out; omega
        case rel => exact ⟨j + 1, by have := J.out; omega, rfl, NX.out⟩
    · have hge : (k : Int) ≤ (j : Int) := by omega
      have hjk : j = k := by omega
      subst hjk
      have X := hid D
      clear D
      go_wp2_with fail
      go_ret
      have D := X.out
      obtain ⟨T2, P2, k1, k2, k3, kw, hszb, hrb, hsz0⟩ := AA.out
      have TT := typed_of_desc T2 P2 hszb k1 k2 D hk
      obtain ⟨ra, r1, r2, r3⟩ := D.rc
      obtain ⟨na, n1, n2, n3⟩ := D.nd
      have hrn : rcb ≠ nbk := by omega
      have g1 : (gB Gb (nbk + 1) j).kd rcb = Gb.kd rcb := gB_lt (by omega)
      have g2 : (gB Gb (nbk + 1) j).kd nbk = Gb.kd nbk := gB_lt (by omega)
      have T3 := TT.T.rekind (b := nbk) (kEx (.cells na 34 (0, 0))) (.inr (.inl (by rw [g2]; exact k2))) (by show Gb.w0.heap.size ≤ nbk; rw [kw]; exact hsz0) (fun o h _ => by rw [n1] at h; cases h; rfl) ⟨by simp, by simp, by simp, by simp, by simp⟩
      have T4 := T3.rekind (b := rcb) (kEx (.cells ra 36 (0, 0))) (.inr (.inl (by rw [Gh.put_ne _ _ hrn, g1]; exact k1))) (by show Gb.w0.heap.size ≤ rcb; rw [kw]; exact hrb) (fun o h _ => by rw [r1] at h; cases h; rfl) ⟨by simp, by simp, by simp, by simp, by simp⟩
      refine ⟨nbk, _, rfl, ⟨T4, TT.A⟩, rfl, P2.t, kw, ⟨na, by rw [Gh.put_ne _ _ hrn.symm, Gh.put_at], fun x hx => n3 x hx⟩, ⟨ra, Gh.put_at _ _ _, fun x hx => r3 x hx⟩, fun b o hb ho => ?_⟩
      obtain ⟨e1, e2⟩ := k3 b o hb ho
      have hbn : b ≠ nbk := fun e => by rw [← e, e1] at k2; cases k2
      rw [Gh.put_ne _ _ hb, Gh.put_ne _ _ hbn, gB_lt e2]; exact e1
end Go.Proofs.Qxb6002353a
