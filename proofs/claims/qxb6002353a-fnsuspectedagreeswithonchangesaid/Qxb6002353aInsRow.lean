/-
  SEAT b6002353a: slices.Insert at a node's row of peers, told by the ghost.
-/
import Derived.Test.Qxb6002353aInsert
namespace Go.Proofs.Qxb6002353a
open Go.RowKit Go.Lib
set_option linter.unusedVariables false
set_option linter.unusedSimpArgs false

theorem TypedE.setsE {E G b} (h : E b ∨ (G.kd b).t = 15) : ∀ (vs : List Value) (o : Nat) (w : World), TypedE E w G → TypedE E (w.setCells b o vs) G
  | [], _, _, T => T
  | v :: r, o, w, T => TypedE.setsE h r (o + 1) _ (T.setE h)
theorem sets_obj (b : Nat) : ∀ (vs : List Value) (o : Nat) (w : World) (arr : Array Value) (e : TypeId) (f : Nat × Nat), w.heap[b]? = some (.cells arr e f) → ∃ arr' : Array Value, (w.setCells b o vs).heap[b]? = some (.cells arr' e f) ∧ arr'.size = arr.size
  | [], _, _, arr, _, _, h => ⟨arr, h, rfl⟩
  | v :: r, o, w, arr, e, f, h => by
    obtain ⟨arr', h1, h2⟩ := sets_obj b r (o + 1) (w.setCell ⟨b, o, none⟩ v) _ e f (setCell_at h)
    exact ⟨arr', h1, by rw [h2]; simp⟩

/-- the row of peers holds more than before -/
theorem TypedE.par_up {E w G b x n c n2} (T : TypedE E w G) (hb : G.kd b = kPar x n c) (hE : E b) (h1 : n ≤ n2) (h2 : n2 ≤ c) : TypedE E w (G.put b (kPar x n2 c)) := by
  have X : Ext G (G.put b (kPar x n2 c)) := ⟨rfl, rfl, rfl, rfl, rfl, rfl, Nat.le_refl _, fun i => by
    by_cases e : i = b
    · subst e; rw [Gh.put_at, hb]; exact .inr (.inr (.inr (.inr ⟨x, n, n2, c, rfl, rfl, h1, h2⟩)))
    · rw [Gh.put_ne _ _ e]; exact .inr (.inr (.inr (.inl rfl)))⟩
  have same : ∀ {i : Nat} {κ : Kd}, G.kd i = κ → κ.t ≠ 8 → (G.put b (kPar x n2 c)).kd i = κ := fun {i κ} h h' => by
    rw [Gh.put_ne _ _ (fun e => by rw [e, hb] at h; rw [← h] at h'; exact h' rfl)]; exact h
  have back : ∀ {i : Nat}, ((G.put b (kPar x n2 c)).kd i).t ≠ 8 → (G.put b (kPar x n2 c)).kd i = G.kd i := fun {i} h => by
    by_cases e : i = b
    · subst e; rw [Gh.put_at] at h; exact absurd rfl h
    · exact Gh.put_ne _ _ e
  refine ⟨T.os, T.tape, T.output, ?_, ?_, fun i o ho => same (T.old i o ho) (by simp), T.k5, T.tb, T.b5, fun x hx => same (T.nb x hx) (by simp), fun x hx => same (T.rb x hx) (by simp), fun x hx => same (T.sb x hx) (by simp), fun x hx => same (T.pm x hx) (by simp), fun x hx => same (T.qm x hx) (by simp), fun x hx => same (T.nw x hx) (by simp), fun x hx => same (T.cb x hx) (by simp), ?_, ?_, ?_, ?_, ?_, T.srt, T.rid, T.qid⟩
  · intro i o ho hEi
    have : i ≠ b := fun e => hEi (e ▸ hE)
    rw [Gh.put_ne _ _ this]; exact (T.ok i o ho hEi).ext X
  · intro i hi
    exact same (T.fr i hi) (by simp)
  · intro x i h1 h2 h3; have e := back (i := i) (by rw [h1]; simp); rw [e] at h1 h2 h3; exact T.slf x i h1 h2 h3
  · intro x i h1 h2; have e := back (i := i) (by rw [h1]; simp); rw [e] at h1 h2; exact T.un x i h1 h2
  · intro x i h1 h2; have e := back (i := i) (by rw [h1]; simp); rw [e] at h1 h2; exact T.uq x i h1 h2
  · intro x i h1 h2; have e := back (i := i) (by rw [h1]; simp); rw [e] at h1 h2; exact T.ur x i h1 h2
  · intro x i h1 h2; have e := back (i := i) (by rw [h1]; simp); rw [e] at h1 h2; exact T.up x i h1 h2

def InsPost (G : Gh) (x n : Nat) (e : Ending) (w' : World) : Prop := ∃ (b' c' n2 : Nat) (G' : Gh), e = .returned (.slice (some ⟨b', 0, none⟩) (n + 1) c') ∧ Le 0 G G' ∧ Typed w' G' ∧ G'.kd b' = kPar x n2 c' ∧ n + 1 ≤ n2 ∧ n2 ≤ c' ∧ G'.bn = G.bn

theorem ins_in_place {w' G x rb n n' c n2} {arr : Array Value} (T : TypedE (fun b => b = rb) w' G) (A : Agree G) (hk : G.kd rb = kPar x n' c) (h1 : n' ≤ n2) (h3 : n + 1 ≤ n2) (h2 : n2 ≤ c) (hm : c ≤ maxLen) (ho : w'.heap[rb]? = some (.cells arr 74 (0, 0))) (hsz : arr.size = c)
    (hpp : ∀ j, j < n2 → ∃ b s, w'.cell? ⟨rb, j, none⟩ = some (.pointer (some ⟨b, 0, none⟩)) ∧ G.kd b = kPeer x s) : InsPost G x n (.returned (.slice (some ⟨rb, 0, none⟩) (n + 1) c)) w' := by
  have T1 := T.par_up hk rfl h1 h2
  refine ⟨rb, c, n2, G.put rb (kPar x n2 c), rfl, ⟨rfl, rfl, rfl, Nat.le_refl _, Nat.le_refl _, fun i => ?_⟩, ⟨T1.shut ?_, A⟩, Gh.put_at _ _ _, h3, h2, rfl⟩
  · by_cases e : i = rb
    · subst e; rw [Gh.put_at, hk]; exact .inr (.inr (.inr ⟨x, n', n2, c, rfl, rfl, h1, h2⟩))
    · rw [Gh.put_ne _ _ e]; exact .inr (.inr (.inl rfl))
  · rintro b o rfl - h
    rw [ho] at h
    cases h
    rw [Gh.put_at]
    refine ⟨arr, rfl, ⟨hsz, hm⟩, fun j hj => ?_⟩
    obtain ⟨p, s, j1, j2⟩ := hpp j hj
    rw [cell_of ho] at j1
    exact ⟨p, s, j1, by rw [Gh.put_ne _ _ (fun e => by rw [e, hk] at j2; cases j2)]; exact j2⟩

theorem ins_new {w' G G1 x b' n c'} {arr : Array Value} (L : Le 0 G G1) (T : Typed w' G1) (hbn : G1.bn = G.bn) (h15 : (G1.kd b').t = 15) (h0 : (G.kd b').t = 0) (hb : G1.w0.heap.size ≤ b') (h2 : n + 1 ≤ c') (hm : c' ≤ maxLen) (ho : w'.heap[b']? = some (.cells arr 74 (0, 0))) (hsz : arr.size = c')
    (hpp : ∀ j, j < n + 1 → ∃ b s, w'.cell? ⟨b', j, none⟩ = some (.pointer (some ⟨b, 0, none⟩)) ∧ G1.kd b = kPeer x s) : InsPost G x n (.returned (.slice (some ⟨b', 0, none⟩) (n + 1) c')) w' := by
  refine ⟨b', c', n + 1, G1.put b' (kPar x (n + 1) c'), rfl, L.turn _ h0, ⟨T.T.rekind (b := b') _ (.inr (.inl h15)) hb (fun o h _ => ?_) ⟨by simp, by simp, by simp, by simp, by simp⟩, T.A⟩, Gh.put_at _ _ _, Nat.le_refl _, h2, hbn⟩
  rw [ho] at h
  cases h
  refine ⟨arr, rfl, ⟨hsz, hm⟩, fun j hj => ?_⟩
  obtain ⟨p, s, j1, j2⟩ := hpp j hj
  rw [cell_of ho] at j1
  exact ⟨p, s, j1, by rw [Gh.put_ne _ _ (fun e => by rw [← e, j2] at h15; cases h15)]; exact j2⟩

theorem c55 {w G x rb n n' c i pb s vb} (T : Typed w G) (hk : G.kd rb = kPar x n' c) (hn : n ≤ n') (hc : n' ≤ c) (hn4 : n ≤ 4) (hi : i ≤ n) (hp : G.kd pb = kPeer x s) (hv : G.kd vb = kEx (.cells #[.pointer (some ⟨pb, 0, none⟩)] 74 (0, 0))) :
    Calls Try.prog 55 #[.slice (some ⟨rb, 0, none⟩) n c, .int .i64 i, .slice (some ⟨vb, 0, none⟩) 1 1] w fun e w' => InsPost G x n e w' := by
  obtain ⟨o, ho, arr, rfl, ⟨hsz, hml⟩, hpp⟩ := T.T.obj hk (by simp) id
  have hsz : arr.size = c := hsz
  have hml : c ≤ maxLen := hml
  have hpp : ∀ i, i < n' → ∃ b s, arr[i]? = some (.pointer (some ⟨b, 0, none⟩)) ∧ G.kd b = kPeer x s := hpp
  have hvo := T.T.exact hv id
  have hm63 : c ≤ 9223372036854775807 := by unfold maxLen at hml; omega
  have hne : vb ≠ rb := fun e => by rw [e, hk] at hv; cases hv
  have hcl : (arr.toList.take n).length = n := by simp; omega
  have hcs : ∀ j v, (arr.toList.take n)[j]? = some v → w.cell? ⟨rb, j, none⟩ = some v := fun j v h => by
    rw [List.getElem?_take] at h
    split at h
    · rw [cell_of ho]; simpa using h
    · cases h
  have hvs : ∀ j v, ([Value.pointer (some ⟨pb, 0, none⟩)] : List Value)[j]? = some v → w.cell? ⟨vb, 0 + j, none⟩ = some v := fun j v h => by
    rw [cell_of hvo]
    cases j with
    | zero => simpa using h
    | succ j => simp at h
  have h1v : ∀ v ∈ ([Value.pointer (some ⟨pb, 0, none⟩)] : List Value), v.oneCell' = true := fun v h => by
    rw [List.mem_singleton.1 h]; rfl
  have hcp : ∀ (j : Nat) (v : Value), (arr.toList.take n)[j]? = some v → ∃ b s, v = .pointer (some ⟨b, 0, none⟩) ∧ G.kd b = kPeer x s := fun j v h => by
    have hj : j < n := by
      have := (List.getElem?_eq_some_iff.1 h).1
      omega
    have h1 := hcs j v h
    rw [cell_of ho] at h1
    obtain ⟨b, s, h2, h3⟩ := hpp j (by omega)
    rw [h2] at h1
    exact ⟨b, s, (Option.some.inj h1).symm, h3⟩
  have h1c : ∀ v ∈ arr.toList.take n, v.oneCell' = true := fun v h => by
    obtain ⟨j, hj⟩ := List.mem_iff_getElem?.1 h
    obtain ⟨b, s, rfl, _⟩ := hcp j v hj
    rfl
  have there : ∀ j, j < c → (w.cell? ⟨rb, j, none⟩).isSome = true := fun j hj => by
    rw [cell_of ho]; simp; omega
  have hsa : w.shape? vb = some (74, 1) := by simp [World.shape?, hvo]
  have hsb : w.shape? rb = some (74, c) := by simp [World.shape?, ho, hsz]
  have old : ∀ j, j < n' → ∃ b s, w.cell? ⟨rb, j, none⟩ = some (.pointer (some ⟨b, 0, none⟩)) ∧ G.kd b = kPeer x s := fun j hj => by
    rw [cell_of ho]; exact hpp j hj
  have TE : TypedE (fun b => b = rb) w G := T.T.weaken (fun _ h => h.elim)
  have hf := T.T.fr _ (Nat.le_refl _)
  have hws := T.T.size
  by_cases hroom : n + 1 ≤ c
  · by_cases hin : i = n
    · subst hin
      refine (ins_end_room rb 0 i c vb 0 1 1 [.pointer (some ⟨pb, 0, none⟩)] w (by omega) hroom hm63 rfl (fun j hj => by rw [show 0 + i + j = i by omega]; exact there i (by omega)) (fun j hj => fz_of ho _) hvs h1v).mono ?_
      rintro e w' ⟨rfl, rfl⟩
      rw [Nat.zero_add]
      obtain ⟨arr', h1, h2⟩ := sets_obj rb [.pointer (some ⟨pb, 0, none⟩)] i w arr 74 (0, 0) ho
      refine ins_in_place (n2 := max n' (i + 1)) (TypedE.setsE (E := fun b => b = rb) (.inl rfl) _ _ _ TE) T.A hk (by omega) (by omega) (by omega) hml h1 (by omega) (fun j hj => ?_)
      by_cases e : j = i
      · subst e
        have := World.cell?_setCells_in rb [.pointer (some ⟨pb, 0, none⟩)] j w (fun k hk => by simp at hk; subst hk; exact there _ (by omega)) 0 (by simp)
        exact ⟨pb, s, this, hp⟩
      · rw [World.cell?_setCells_out rb _ _ _ _ (fun _ _ => by simp; omega)]
        exact old j (by omega)
    · have hsp : ∀ j, j < n + 1 → (w.cell? ⟨rb, 0 + j, none⟩).isSome = true := fun j hj => by rw [Nat.zero_add]; exact there _ (by omega)
      refine (ins_shift rb 0 n c i vb 0 1 1 (arr.toList.take n) [.pointer (some ⟨pb, 0, none⟩)] w (by omega) (by omega) hroom hm63 hne hcl rfl (fun j v h => by rw [Nat.zero_add]; exact hcs j v h) hsp (fun j hj => fz_of ho _) hvs h1c h1v 74 74 1 c hsa hsb (by omega) (fz_of hvo _) (fz_of hvo _)).mono ?_
      rintro e w' ⟨rfl, rfl⟩
      rw [Nat.zero_add, Nat.zero_add]
      obtain ⟨arr1, h1, h2⟩ := sets_obj rb ((arr.toList.take n).drop i) (i + 1) w.drew arr 74 (0, 0) ho
      obtain ⟨arr2, h3, h4⟩ := sets_obj rb [.pointer (some ⟨pb, 0, none⟩)] i _ arr1 74 (0, 0) h1
      have hdl : ((arr.toList.take n).drop i).length = n - i := by rw [List.length_drop, hcl]
      have there1 : ∀ j, j < c → ((w.drew.setCells rb (i + 1) ((arr.toList.take n).drop i)).cell? ⟨rb, j, none⟩).isSome = true := fun j hj => by rw [cell_of h1]; simp; omega
      refine ins_in_place (n2 := max n' (n + 1)) (TypedE.setsE (E := fun b => b = rb) (.inl rfl) _ _ _ (TypedE.setsE (E := fun b => b = rb) (.inl rfl) _ _ _ TE.drew)) T.A hk (by omega) (by omega) (by omega) hml h3 (by omega) (fun j hj => ?_)
      by_cases e : j = i
      · subst e
        have := World.cell?_setCells_in rb [.pointer (some ⟨pb, 0, none⟩)] j _ (fun k hk => by simp at hk; subst hk; exact there1 _ (by omega)) 0 (by simp)
        exact ⟨pb, s, this, hp⟩
      · rw [World.cell?_setCells_out rb _ _ _ _ (fun _ _ => by simp; omega)]
        by_cases e2 : i + 1 ≤ j ∧ j < n + 1
        · have hj2 : j - (i + 1) < ((arr.toList.take n).drop i).length := by omega
          have := World.cell?_setCells_in rb ((arr.toList.take n).drop i) (i + 1) w.drew (fun k hk => there _ (by omega)) (j - (i + 1)) hj2
          rw [show i + 1 + (j - (i + 1)) = j by omega] at this
          obtain ⟨b, s, h5, h6⟩ := hcp (i + (j - (i + 1))) ((arr.toList.take n).drop i)[j - (i + 1)] (by
            have := List.getElem?_eq_getElem hj2
            rw [List.getElem?_drop] at this
            exact this)
          rw [this, h5]
          exact ⟨b, s, rfl, h6⟩
        · rw [World.cell?_setCells_out rb _ _ _ _ (fun _ _ => by rw [hdl]; show j < i + 1 ∨ i + 1 + (n - i) ≤ j; omega)]
          exact old j (by omega)
  · have hgc := grownCap_ge w (n + 1) c 74
    have hgm := grownCap_le_maxLen w (n + 1) c 74 (by unfold maxLen; omega)
    by_cases hin : i = n
    · subst hin
      refine (ins_end_grow (some ⟨rb, 0, none⟩) i c vb 0 1 1 (arr.toList.take i) [.pointer (some ⟨pb, 0, none⟩)] w (by omega) (by omega) (by omega) (by omega) hcl rfl (by simp) (fun a ha j v h => by cases ha; rw [Addr.add_lit, Nat.zero_add]; exact hcs j v h) hvs h1v).mono ?_
      rintro e w' ⟨rfl, rfl⟩
      generalize hG : grownCap w (i + 1) c 74 = gc at *
      have T2 := (T.T.drew.alloc (o := .cells ((arr.toList.take i ++ [Value.pointer (some ⟨pb, 0, none⟩)]).toArray ++ Builtin.zeroCells (Value.pointer none).cells (gc - (i + 1))) 74) kAny trivial ⟨by simp, by simp, by simp, by simp, by simp⟩)
      have hnew : (w.drew.alloc (.cells ((arr.toList.take i ++ [Value.pointer (some ⟨pb, 0, none⟩)]).toArray ++ Builtin.zeroCells (Value.pointer none).cells (gc - (i + 1))) 74)).heap[w.heap.size]? = _ := (MapKept.heap_alloc w.drew _).1
      refine ins_new (G1 := G.put w.heap.size kAny) (Le.put _ (by rw [hf])) ⟨T2, T.A⟩ rfl (by rw [Gh.put_at]) (by rw [hf]) hws hgc hgm hnew ?_ (fun j hj => ?_)
      · simp [Builtin.zeroCells, Value.cells, hcl]; omega
      · rw [cell_of hnew]
        by_cases e : j = i
        · subst e
          refine ⟨pb, s, ?_, by rw [Gh.put_ne _ _ (fun e => by rw [e, hf] at hp; cases hp)]; exact hp⟩
          rw [Array.getElem?_append_left (by simp; omega)]
          simp only [List.getElem?_toArray]
          rw [List.getElem?_append_right (by omega), hcl]
          simp
        · obtain ⟨b, s', h2, h3⟩ := hpp j (by omega)
          refine ⟨b, s', ?_, by rw [Gh.put_ne _ _ (fun e => by rw [e, hf] at h3; cases h3)]; exact h3⟩
          rw [Array.getElem?_append_left (by simp; omega)]
          simp only [List.getElem?_toArray]
          rw [List.getElem?_append_left (by omega), List.getElem?_take_of_lt (by omega)]
          simpa using h2
    · refine (ins_grow rb 0 n c i vb 0 1 1 (arr.toList.take n) [.pointer (some ⟨pb, 0, none⟩)] w (by omega) (by omega) (by omega) (by omega) (by omega) hcl rfl (fun j v h => by rw [Nat.zero_add]; exact hcs j v h) hvs h1c h1v).mono ?_
      rintro e w' ⟨rfl, rfl⟩
      generalize hG : grownCap w (n + 1) c 74 = gc at *
      generalize hR : ((arr.toList.take n).take i).toArray ++ Builtin.zeroCells (Value.pointer none).cells (n + 1 - i) ++ Builtin.zeroCells (Value.pointer none).cells (gc - (n + 1)) = ROW at *
      have hRs : ROW.size = gc := by
        rw [← hR]; simp [Builtin.zeroCells, Value.cells]; omega
      have T2 := (T.T.alloc (o := .cells ROW 74) kAny trivial ⟨by simp, by simp, by simp, by simp, by simp⟩)
      have h15 : ((G.put w.heap.size kAny).kd w.heap.size).t = 15 := by rw [Gh.put_at]
      have hnew : (w.alloc (.cells ROW 74)).drew.heap[w.heap.size]? = some (.cells ROW 74 (0, 0)) := (MapKept.heap_alloc w _).1
      obtain ⟨arr1, h1, h2⟩ := sets_obj w.heap.size [.pointer (some ⟨pb, 0, none⟩)] i (w.alloc (.cells ROW 74)).drew ROW 74 (0, 0) hnew
      obtain ⟨arr2, h3, h4⟩ := sets_obj w.heap.size ((arr.toList.take n).drop i) (i + 1) ((w.alloc (.cells ROW 74)).drew.setCells w.heap.size i [.pointer (some ⟨pb, 0, none⟩)]).drew arr1 74 (0, 0) h1
      have hdl : ((arr.toList.take n).drop i).length = n - i := by rw [List.length_drop, hcl]
      have up : ∀ {b s}, G.kd b = kPeer x s → (G.put w.heap.size kAny).kd b = kPeer x s := fun {b s} h => by
        rw [Gh.put_ne _ _ (fun e => by rw [e, hf] at h; cases h)]; exact h
      refine ins_new (G1 := G.put w.heap.size kAny) (Le.put _ (by rw [hf])) ⟨TypedE.setsE (.inr h15) _ _ _ (TypedE.setsE (.inr h15) _ _ _ T2.drew).drew, T.A⟩ rfl h15 (by rw [hf]) hws hgc hgm h3 (by omega) (fun j hj => ?_)
      by_cases e2 : i + 1 ≤ j
      · have hj2 : j - (i + 1) < ((arr.toList.take n).drop i).length := by omega
        have := World.cell?_setCells_in w.heap.size ((arr.toList.take n).drop i) (i + 1) ((w.alloc (.cells ROW 74)).drew.setCells w.heap.size i [.pointer (some ⟨pb, 0, none⟩)]).drew (fun k hk => by
          have e : ((w.alloc (.cells ROW 74)).drew.setCells w.heap.size i [.pointer (some ⟨pb, 0, none⟩)]).drew.cell? ⟨w.heap.size, i + 1 + k, none⟩ = arr1[i + 1 + k]? := cell_of h1 _
          rw [e]; simp; omega) (j - (i + 1)) hj2
        rw [show i + 1 + (j - (i + 1)) = j by omega] at this
        obtain ⟨b, s, h5, h6⟩ := hcp (i + (j - (i + 1))) ((arr.toList.take n).drop i)[j - (i + 1)] (by
          have := List.getElem?_eq_getElem hj2
          rw [List.getElem?_drop] at this
          exact this)
        rw [this, h5]
        exact ⟨b, s, rfl, up h6⟩
      · rw [World.cell?_setCells_out w.heap.size _ _ _ _ (fun _ _ => by show j < i + 1 ∨ _; omega)]
        show ∃ b s, ((w.alloc (.cells ROW 74)).drew.setCells w.heap.size i [.pointer (some ⟨pb, 0, none⟩)]).cell? ⟨w.heap.size, j, none⟩ = _ ∧ _
        by_cases e : j = i
        · subst e
          have := World.cell?_setCells_in w.heap.size [.pointer (some ⟨pb, 0, none⟩)] j (w.alloc (.cells ROW 74)).drew (fun k hk => by simp at hk; subst hk; rw [cell_of hnew]; simp; omega) 0 (by simp)
          exact ⟨pb, s, this, up hp⟩
        · rw [World.cell?_setCells_out w.heap.size _ _ _ _ (fun _ _ => by simp; omega), cell_of hnew]
          obtain ⟨b, s', h5, h6⟩ := hpp j (by omega)
          refine ⟨b, s', ?_, up h6⟩
          rw [← hR, Array.append_assoc, Array.getElem?_append_left (by simp; omega)]
          simp only [List.getElem?_toArray]
          rw [List.getElem?_take_of_lt (by omega), List.getElem?_take_of_lt (by omega)]
          simpa using h5
end Go.Proofs.Qxb6002353a
