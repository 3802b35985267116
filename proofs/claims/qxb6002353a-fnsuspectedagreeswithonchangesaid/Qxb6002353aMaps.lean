/-
  SEAT b6002353a: the three maps of a node: a look-up, a store.
-/
import Derived.Test.Qxb6002353aGhost
namespace Go.Proofs.Qxb6002353a
open Go.RowKit
open Go.ChangeMaps (setBlock)
open Go.MapKept (Stamped IsKey findNow_spec)
set_option linter.unusedVariables false
set_option linter.unusedSimpArgs false

theorem zero66 (w : World) : (zeroValue 66).run Try.prog w = .ok (.agg #[.int .u64 0, .bool false]) w := by kernel_rfl
theorem zero74 (w : World) : (zeroValue 74).run Try.prog w = .ok (.pointer none) w := by kernel_rfl

/-- a map keyed by strings: what a look-up hands out -/
theorem look_any {t e : TypeId} {z : Value} (hm : Try.prog.underlying t = some (.map 9 e)) (hz : ∀ w, (zeroValue e).run Try.prog w = .ok z w) {w : World} {r : Nat} {es : Array MapEntry} {c : Nat} (hb : w.heap[r]? = some (.map es c)) (hk : ∀ x ∈ es.toList, IsKey .string x.key) (s : ByteArray) :
    ∃ v ok, (∀ W : World, W.heap[r]? = w.heap[r]? → (Instr.lookup t (.map (some r)) (.string s) false).run Try.prog W = .ok v W) ∧ (∀ W : World, W.heap[r]? = w.heap[r]? → (Instr.lookup t (.map (some r)) (.string s) true).run Try.prog W = .ok (.tuple #[v, .bool ok]) W) ∧
      ((ok = false ∧ v = z ∧ ∀ x ∈ es.toList, x.key ≠ .string s) ∨ (ok = true ∧ ∃ x ∈ es.toList, x.key = .string s ∧ v = x.val)) := by
  have hb' : ∀ W : World, W.heap[r]? = w.heap[r]? → W.heap[r]? = some (.map es c) := fun _ h => h.trans hb
  have hs : IsKey .string (.string s) := trivial
  rcases findNow_spec hs es.toList 0 hk with ⟨h1, h2⟩ | ⟨j, x, h1, h2, h3⟩
  · refine ⟨z, false, fun W hW => ?_, fun W hW => ?_, .inl ⟨rfl, rfl, h2⟩⟩
    · simp [Instr.lookup, run_underlying hm, MapKept.run_getObj_map (hb' W hW), MapKept.run_checkKey Try.underlying9 hs, MapKept.run_findKey Try.underlying9 h1, hz, Result.andThen]
    · simp [Instr.lookup, run_underlying hm, MapKept.run_getObj_map (hb' W hW), MapKept.run_checkKey Try.underlying9 hs, MapKept.run_findKey Try.underlying9 h1, hz, Result.andThen]
  · refine ⟨x.val, true, fun W hW => ?_, fun W hW => ?_, .inr ⟨rfl, x, List.mem_of_getElem? h2, h3, rfl⟩⟩
    · simp [Instr.lookup, run_underlying hm, MapKept.run_getObj_map (hb' W hW), MapKept.run_checkKey Try.underlying9 hs, MapKept.run_findKey Try.underlying9 h1, Result.andThen]
    · simp [Instr.lookup, run_underlying hm, MapKept.run_getObj_map (hb' W hW), MapKept.run_checkKey Try.underlying9 hs, MapKept.run_findKey Try.underlying9 h1, Result.andThen]

theorem u64_0 : U64 0 := ⟨by omega, by omega⟩
theorem u64_wrap (z : Int) : U64 (IntKind.u64.wrap z) := by
  unfold U64 IntKind.wrap
  simp [IntKind.bits, IntKind.signed]
  omega
/-- the pairs: a look-up, in any world that holds the map so -/
theorem look_qmW {E w G x} (T : TypedE E w G) (hx : x < G.k) (hE : ¬ E (G.lay x).qm) (s : ByteArray) :
    ∃ tg su ok, (∀ W : World, W.heap[(G.lay x).qm]? = w.heap[(G.lay x).qm]? → (Instr.lookup 61 (.map (some (G.lay x).qm)) (.string s) false).run Try.prog W = .ok (.agg #[.int .u64 tg, .bool su]) W) ∧ (∀ W : World, W.heap[(G.lay x).qm]? = w.heap[(G.lay x).qm]? → (Instr.lookup 61 (.map (some (G.lay x).qm)) (.string s) true).run Try.prog W = .ok (.tuple #[.agg #[.int .u64 tg, .bool su], .bool ok]) W) ∧ (su = true ↔ G.qs x s) ∧ U64 tg := by
  obtain ⟨o, h1, es, c, rfl, h2, h3, h4⟩ := T.obj (T.qm x hx) (by simp) hE
  obtain ⟨v, ok, k1, k2, k3⟩ := look_any Try.underlying61 zero66 h1 (fun e he => by obtain ⟨s, _, _, k, _⟩ := h3 e he; rw [k]; trivial) s
  rcases k3 with ⟨rfl, rfl, k4⟩ | ⟨rfl, e, he, k4, rfl⟩
  · refine ⟨0, false, false, k1, k2, ?_, u64_0⟩
    simp only [Bool.false_eq_true, false_iff]
    intro hq
    obtain ⟨e, he, k⟩ := h4 s hq
    exact k4 e he k
  · obtain ⟨s', tg, su, j1, j2, j3, j4⟩ := h3 e he
    rw [k4] at j1
    cases j1
    rw [j2] at k1 k2
    exact ⟨tg, su, true, k1, k2, j4, j3.2⟩

/-- the pairs: a look-up -/
theorem look_qm {E w G x} (T : TypedE E w G) (hx : x < G.k) (hE : ¬ E (G.lay x).qm) (s : ByteArray) :
    ∃ tg su ok, (∀ q, (Instr.lookup 61 (.map (some (G.lay x).qm)) (.string s) false).run Try.prog (w.drewN q) = .ok (.agg #[.int .u64 tg, .bool su]) (w.drewN q)) ∧ (∀ q, (Instr.lookup 61 (.map (some (G.lay x).qm)) (.string s) true).run Try.prog (w.drewN q) = .ok (.tuple #[.agg #[.int .u64 tg, .bool su], .bool ok]) (w.drewN q)) ∧ (su = true ↔ G.qs x s) ∧ U64 tg := by
  obtain ⟨tg, su, ok, h1, h2, h3⟩ := look_qmW T hx hE s
  exact ⟨tg, su, ok, fun q => h1 _ rfl, fun q => h2 _ rfl, h3⟩

/-- the peers: a look-up -/
theorem look_pm {E w G x} (T : TypedE E w G) (hx : x < G.k) (hE : ¬ E (G.lay x).pm) (s : ByteArray) :
    ∃ p, (∀ q, (Instr.lookup 59 (.map (some (G.lay x).pm)) (.string s) false).run Try.prog (w.drewN q) = .ok (.pointer p) (w.drewN q)) ∧ (p = none ∨ ∃ b, p = some ⟨b, 0, none⟩ ∧ G.kd b = kPeer x s) ∧ (s = nm x → p = some ⟨(G.lay x).sb, 0, none⟩) ∧ (p = none → ∃ es c, w.heap[(G.lay x).pm]? = some (.map es c) ∧ ∀ e ∈ es.toList, e.key ≠ Value.string s) := by
  obtain ⟨o, h1, es, c, rfl, h2, h3, h4, h5⟩ := T.obj (T.pm x hx) (by simp) hE
  obtain ⟨v, ok, k1, k2, k3⟩ := look_any Try.underlying59 zero74 h1 (fun e he => by obtain ⟨s, _, k, _⟩ := h3 e he; rw [k]; trivial) s
  rcases k3 with ⟨rfl, rfl, k4⟩ | ⟨rfl, e, he, k4, rfl⟩
  · refine ⟨none, fun q => k1 _ rfl, .inl rfl, ?_, fun _ => ⟨es, c, h1, k4⟩⟩
    rintro rfl
    obtain ⟨e, he, k⟩ := h4
    exact absurd k (k4 e he)
  · obtain ⟨s', b, j1, j2, j3⟩ := h3 e he
    rw [k4] at j1
    cases j1
    rw [j2] at k1
    refine ⟨some ⟨b, 0, none⟩, fun q => k1 _ rfl, .inr ⟨b, rfl, j3⟩, ?_, fun h => by cases h⟩
    rintro rfl
    rw [T.slf x b (by rw [j3]) (by rw [j3]) (by rw [j3])]

/-- a store into a map keyed by strings -/
theorem upd_any {t e : TypeId} (hm : Try.prog.underlying t = some (.map 9 e)) {w : World} {r : Nat} {es : Array MapEntry} {c : Nat} (hb : w.heap[r]? = some (.map es c)) (hst : Stamped es c) (hk : ∀ x ∈ es.toList, IsKey .string x.key) (s : ByteArray) (v : Value) :
    ∃ es' c', (Instr.mapUpdate t (.map (some r)) (.string s) v).run Try.prog w = .ok () (setBlock w r (.map es' c')) ∧ Stamped es' c' ∧ (∀ x ∈ es'.toList, (x.key = .string s ∧ x.val = v) ∨ (x ∈ es.toList ∧ x.key ≠ .string s)) ∧ (∃ x ∈ es'.toList, x.key = .string s) ∧ (∀ x ∈ es.toList, ∃ y ∈ es'.toList, y.key = x.key) ∧ ((∀ x ∈ es.toList, x.key ≠ .string s) → es'.size = es.size + 1) := by
  have hs : IsKey .string (.string s) := trivial
  rcases findNow_spec hs es.toList 0 hk with ⟨h1, h2⟩ | ⟨j, x, h1, h2, h3⟩
  · refine ⟨es.push { key := .string s, val := v, born := c }, c + 1, ?_, MapKept.stamped_push hst h2, ?_, ?_, ?_, fun _ => by simp⟩
    · simp [Instr.mapUpdate, run_underlying hm, MapKept.run_getObj_map hb, MapKept.run_checkKey Try.underlying9 hs, MapKept.run_findKey Try.underlying9 h1, MapKept.run_setObj_map _ hb, setBlock, Result.andThen]
    · intro y hy
      simp only [Array.toList_push, List.mem_append, List.mem_singleton] at hy
      rcases hy with hy | rfl
      · exact .inr ⟨hy, h2 y hy⟩
      · exact .inl ⟨rfl, rfl⟩
    · exact ⟨{ key := .string s, val := v, born := c }, by simp, rfl⟩
    · intro y hy; exact ⟨y, by simp [hy], rfl⟩
  · have hj : es[j]? = some x := by simpa using h2
    have hlt : j < es.size := (Array.getElem?_eq_some_iff.1 hj).1
    refine ⟨es.modify j fun e => { e with key := .string s, val := v }, c, ?_, MapKept.stamped_modify hst _ _ (fun _ _ => rfl) (fun e' _ he' => by rw [hj] at he'; cases he'; exact h3.symm), ?_, ?_, ?_, fun h => absurd h3 (h x (List.mem_of_getElem? h2))⟩
    · simp [Instr.mapUpdate, run_underlying hm, MapKept.run_getObj_map hb, MapKept.run_checkKey Try.underlying9 hs, MapKept.run_findKey Try.underlying9 h1, hj, h3, MapKept.run_keyThatStays hs, MapKept.run_setObj_map _ hb, setBlock, Result.andThen]
    · intro y hy
      obtain ⟨i, hi⟩ := List.mem_iff_getElem?.1 hy
      rw [Array.getElem?_toList, Array.getElem?_modify] at hi
      by_cases hij : j = i
      · subst hij
        rw [if_pos rfl, hj] at hi
        cases hi
        exact .inl ⟨rfl, rfl⟩
      · rw [if_neg hij] at hi
        refine .inr ⟨List.mem_iff_getElem?.2 ⟨i, by simpa using hi⟩, fun hk' => ?_⟩
        have hn := hst.2.2
        have e1 : (es.toList.map (·.key))[j]? = some (Value.string s) := by simp [hj, h3]
        have e2 : (es.toList.map (·.key))[i]? = some (Value.string s) := by simp [hi, hk']
        exact hij ((List.getElem?_inj (by simpa using hlt) hn).1 (e1.trans e2.symm))
    · exact ⟨{ x with key := .string s, val := v }, List.mem_iff_getElem?.2 ⟨j, by rw [Array.getElem?_toList, Array.getElem?_modify, if_pos rfl, hj]; rfl⟩, rfl⟩
    · intro y hy
      have e0 := MapKept.modify_keys j (fun e => { e with key := .string s, val := v }) (es := es) (fun e' he' => by rw [hj] at he'; cases he'; exact h3.symm)
      have : y.key ∈ (es.modify j fun e => { e with key := .string s, val := v }).toList.map (·.key) := by rw [e0]; exact List.mem_map.2 ⟨y, hy, rfl⟩
      obtain ⟨z, hz, e⟩ := List.mem_map.1 this
      exact ⟨z, hz, e⟩

theorem TypedE.block {E w G} (T : TypedE E w G) {b : Nat} {o : Obj} (h : ¬ E b → KOk G (G.kd b) o) : TypedE E (setBlock w b o) G := T.setObj h

/-- the pairs: a store -/
theorem upd_qm {w G x} (T : Typed0 w G) (hx : x < G.k) {s : ByteArray} {tg : Int} {su : Bool} (hs : ID G s) (ht : U64 tg) (hn : su = true → s ≠ nm x) :
    ∃ o, (Instr.mapUpdate 61 (.map (some (G.lay x).qm)) (.string s) (.agg #[.int .u64 tg, .bool su])).run Try.prog w = .ok () (setBlock w (G.lay x).qm o) ∧ Typed0 (setBlock w (G.lay x).qm o) { G with qs := fun y => if y = x then (fun t => if t = s then su = true else G.qs x t) else G.qs y } := by
  obtain ⟨ob, h1, es, c, rfl, h2, h3, h4⟩ := T.obj (T.qm x hx) (by simp) id
  obtain ⟨es', c', k1, k2, k3, k4, k5, k6⟩ := upd_any Try.underlying61 h1 h2 (fun e he => by obtain ⟨s, _, _, k, _⟩ := h3 e he; rw [k]; trivial) s (.agg #[.int .u64 tg, .bool su])
  refine ⟨_, k1, ?_⟩
  have T1 : TypedE (fun b => b = (G.lay x).qm) (setBlock w (G.lay x).qm (.map es' c')) G := (T.weaken (fun _ h => h.elim)).block (fun h => absurd rfl h)
  have T2 := T1.to_qs x (fun t => if t = s then su = true else G.qs x t) rfl (fun _ t ht => by
    by_cases e : t = s
    · subst e; rw [if_pos rfl] at ht; exact ⟨hs, hn ht⟩
    · rw [if_neg e] at ht; exact T.qid x hx t ht)
  refine T2.shut ?_
  rintro b o rfl - ho
  have hlt : (G.lay x).qm < w.heap.size := T.lt (T.qm x hx) (by simp)
  have : o = .map es' c' := by
    have e : (setBlock w (G.lay x).qm (.map es' c')).heap[(G.lay x).qm]? = some (.map es' c') := by simp [setBlock, hlt]
    rw [e] at ho; exact (Option.some.inj ho).symm
  subst this
  rw [show ({ G with qs := fun y => if y = x then (fun t => if t = s then su = true else G.qs x t) else G.qs y } : Gh).kd (G.lay x).qm = kQm x from T.qm x hx]
  refine ⟨es', c', rfl, k2, fun e he => ?_, fun t ht => ?_⟩
  · rcases k3 e he with ⟨j1, j2⟩ | ⟨j1, j2⟩
    · exact ⟨s, tg, su, j1, j2, ⟨hs, ht⟩, by simp⟩
    · obtain ⟨s', tg', su', i1, i2, i3, i4⟩ := h3 e j1
      refine ⟨s', tg', su', i1, i2, i3, ?_⟩
      have : s' ≠ s := fun h => j2 (by rw [i1, h])
      simp [this, i4]
  · by_cases e : t = s
    · subst e; exact k4
    · simp [e] at ht
      obtain ⟨e', he', k⟩ := h4 t ht
      obtain ⟨y, hy, k'⟩ := k5 e' he'
      exact ⟨y, hy, k'.trans k⟩

/-- the news: a store -/
theorem upd_nw {w G x} (T : Typed0 w G) (hx : x < G.k) {s : ByteArray} (hs : ID G s) (u : Bool) :
    ∃ o, (Instr.mapUpdate 62 (.map (some (G.lay x).nw)) (.string s) (.bool u)).run Try.prog w = .ok () (setBlock w (G.lay x).nw o) ∧ Typed0 (setBlock w (G.lay x).nw o) G := by
  obtain ⟨ob, h1, es, c, rfl, h2, h3⟩ := T.obj (T.nw x hx) (by simp) id
  obtain ⟨es', c', k1, k2, k3, k4, k5, k6⟩ := upd_any Try.underlying62 h1 h2 (fun e he => by obtain ⟨s, _, k, _⟩ := h3 e he; rw [k]; trivial) s (.bool u)
  refine ⟨_, k1, T.block fun _ => ?_⟩
  rw [T.nw x hx]
  refine ⟨es', c', rfl, k2, fun e he => ?_⟩
  rcases k3 e he with ⟨j1, j2⟩ | ⟨j1, j2⟩
  · exact ⟨s, u, j1, j2, hs⟩
  · exact h3 e j1
/-- the news struck -/
theorem clear_nw {w G x} (T : Typed0 w G) (hx : x < G.k) (ty : TypeId) :
    ∃ o, (Builtin.clear_ #[62] ty #[.map (some (G.lay x).nw)]).run Try.prog w = .ok (.tuple #[]) (setBlock w (G.lay x).nw o) ∧ Typed0 (setBlock w (G.lay x).nw o) G := by
  obtain ⟨ob, h1, es, c, rfl, h2, h3⟩ := T.obj (T.nw x hx) (by simp) id
  refine ⟨.map #[] c, ?_, T.block fun _ => ?_⟩
  · simp [Builtin.clear_, run_underlying Try.underlying62, MapKept.run_getObj_map h1, MapKept.run_setObj_map _ h1, setBlock, Result.andThen]
  · rw [T.nw x hx]; exact ⟨#[], c, rfl, MapKept.stamped_empty c, by simp⟩
theorem nodup_len (k : Nat) : ∀ l : List ByteArray, l.Nodup → (∀ s ∈ l, ∃ i, i < k ∧ s = nm i) → l.length ≤ k := by
  haveI : LawfulBEq ByteArray := { eq_of_beq := fun h => (MapKept.bytes_beq _ _).1 h, rfl := (MapKept.bytes_beq _ _).2 rfl }
  induction k with
  | zero =>
    intro l _ h
    cases l with
    | nil => simp
    | cons a l => obtain ⟨i, hi, _⟩ := h a (by simp); omega
  | succ k ih =>
    intro l hn h
    by_cases hk : nm k ∈ l
    · have h1 := ih (l.erase (nm k)) (hn.erase _) (fun s hs => by
        obtain ⟨i, hi, rfl⟩ := h s (List.mem_of_mem_erase hs)
        refine ⟨i, ?_, rfl⟩
        rcases Nat.lt_or_ge i k with h' | h'
        · exact h'
        · have : i = k := by omega
          subst this
          exact absurd hs (List.Nodup.not_mem_erase hn))
      rw [List.length_erase_of_mem hk] at h1
      omega
    · have h1 := ih l hn (fun s hs => by
        obtain ⟨i, hi, rfl⟩ := h s hs
        refine ⟨i, ?_, rfl⟩
        rcases Nat.lt_or_ge i k with h' | h'
        · exact h'
        · have : i = k := by omega
          subst this
          exact absurd hs hk)
      omega
/-- the keys of a map: no more than the names -/
theorem keys_len {G : Gh} {es : Array MapEntry} {c : Nat} (h : Stamped es c) (hk : ∀ e ∈ es.toList, ∃ s, e.key = Value.string s ∧ ID G s) : es.size ≤ G.k := by
  have h1 := nodup_len G.k (es.toList.map fun e => match e.key with | .string s => s | _ => .empty) (by
    have hn := h.2.2
    rw [List.Nodup, List.pairwise_map] at hn ⊢
    refine List.Pairwise.imp_of_mem ?_ hn
    intro a b ha hb hab e
    obtain ⟨s, k1, _⟩ := hk a ha
    obtain ⟨t, k2, _⟩ := hk b hb
    simp only [k1, k2] at e hab
    exact hab (by rw [e])) (fun s hs => by
    obtain ⟨e, he, rfl⟩ := List.mem_map.1 hs
    obtain ⟨t, k1, i, k2, k3⟩ := hk e he
    exact ⟨i, k2, by simp only [k1]; exact k3⟩)
  simpa using h1
/-- the peers: a new one -/
theorem upd_pm {w G x} (T : Typed0 w G) (hx : x < G.k) {s : ByteArray} {b : Nat} (hb : G.kd b = kPeer x s) (hnew : ∃ es c, w.heap[(G.lay x).pm]? = some (.map es c) ∧ ∀ e ∈ es.toList, e.key ≠ Value.string s) :
    ∃ w', (Instr.mapUpdate 59 (.map (some (G.lay x).pm)) (.string s) (.pointer (some ⟨b, 0, none⟩))).run Try.prog w = .ok () w' ∧ Typed0 w' { G with bn := fun y => if y = x then G.bn x + 1 else G.bn y } := by
  obtain ⟨ob, h1, es, c, rfl, h2, h3, h4, h5⟩ := T.obj (T.pm x hx) (by simp) id
  obtain ⟨es0, c0, e0, hno⟩ := hnew
  rw [h1] at e0
  cases e0
  obtain ⟨es', c', k1, k2, k3, k4, k5, k6⟩ := upd_any Try.underlying59 h1 h2 (fun e he => by obtain ⟨s, _, k, _⟩ := h3 e he; rw [k]; trivial) s (.pointer (some ⟨b, 0, none⟩))
  refine ⟨_, k1, ?_⟩
  have hall : ∀ e ∈ es'.toList, ∃ s b, e.key = Value.string s ∧ e.val = Value.pointer (some ⟨b, 0, none⟩) ∧ G.kd b = kPeer x s := fun e he => by
    rcases k3 e he with ⟨j1, j2⟩ | ⟨j1, j2⟩
    · exact ⟨s, b, j1, j2, hb⟩
    · exact h3 e j1
  have hsz : es'.size = G.bn x + 1 := (k6 hno).trans (by rw [h5])
  have hle : es'.size ≤ G.k := keys_len (G := G) k2 (fun e he => by
    obtain ⟨s, b, j1, j2, j3⟩ := hall e he
    obtain ⟨v, j4, _⟩ := T.peer j3 id
    exact ⟨s, j1, j4⟩)
  have hk := T.k5
  have T1 : TypedE (fun b => b = (G.lay x).pm) (setBlock w (G.lay x).pm (.map es' c')) G := (T.weaken (fun _ h => h.elim)).block (fun h => absurd rfl h)
  have T2 := T1.to_bn x (G.bn x + 1) (by omega) (by omega) rfl
  refine T2.shut ?_
  rintro b' o rfl - ho
  have hlt : (G.lay x).pm < w.heap.size := T.lt (T.pm x hx) (by simp)
  have : o = .map es' c' := by
    have e : (setBlock w (G.lay x).pm (.map es' c')).heap[(G.lay x).pm]? = some (.map es' c') := by simp [setBlock, hlt]
    rw [e] at ho; exact (Option.some.inj ho).symm
  subst this
  rw [show ({ G with bn := fun y => if y = x then G.bn x + 1 else G.bn y } : Gh).kd (G.lay x).pm = kPm x from T.pm x hx]
  refine ⟨es', c', rfl, k2, hall, ?_, ?_⟩
  · obtain ⟨e', he', k⟩ := h4
    obtain ⟨y, hy, k'⟩ := k5 e' he'
    exact ⟨y, hy, k'.trans k⟩
  · show es'.size = if x = x then G.bn x + 1 else _
    rw [if_pos rfl, hsz]
end Go.Proofs.Qxb6002353a
