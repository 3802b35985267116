/-
  SEAT b6002353a: the recorder takes a name in.
-/
import Derived.Test.Qxb6002353aOnA
import Derived.Maps.AppendAt
namespace Go.Proofs.Qxb6002353a
open Go.RowKit
set_option linter.unusedVariables false
set_option linter.unusedSimpArgs false

structure Op22 (G G1 : Gh) (x : Nat) (u v : Value) (n : Nat) (xs : List Value) (wr : World) : Prop where
  T : TypedE (fun b => b = (G.lay x).rb) wr G1
  hk : G1.k = G.k
  hl : G1.lay = G.lay
  hw : G1.w0 = G.w0
  hq : G1.qs = G.qs
  hrs : G1.rs = G.rs
  ht : G1.t = G.t + 1
  hkd : ∀ b, (G.kd b).t = 0 ∨ ((G.kd b).t = 12 ∨ (G.kd b).t = 16) ∨ G1.kd b = G.kd b
  hr : wr.heap[(G.lay x).rb]? = some (.cells #[u, .bool false, v] 38 (0, 0))
  fr : FrOk G1 x v
  own : wr.ownsRow G.w0.heap.size 9 1 u n xs
  any : ∀ b, u.ownBlock = some b → (G1.kd b).t = 15
  org : ∀ b, u.ownBlock = some b → (G.kd b).t = 0 ∨ ((G.kd b).t = 12 ∨ (G.kd b).t = 16)

theorem own_of_block {w w' : World} {base : Nat} {e : TypeId} {size : Nat} {v : Value} {n : Nat} {xs : List Value} (h : w.ownsRow base e size v n xs) (hb : ∀ b, v.ownBlock = some b → w'.heap[b]? = w.heap[b]?) : w'.ownsRow base e size v n xs := by
  refine ⟨h.1, ?_⟩
  rcases h.2 with h | ⟨g, cap, cur, rfl, h1, h2, h3⟩
  · exact .inl h
  · exact .inr ⟨g, cap, cur, rfl, h1, by rw [hb g rfl]; exact h2, h3⟩
theorem own_lt {w : World} {base : Nat} {e : TypeId} {size : Nat} {v : Value} {n : Nat} {xs : List Value} (h : w.ownsRow base e size v n xs) {b : Nat} (hb : v.ownBlock = some b) : b < w.heap.size := by
  rcases h.2 with ⟨rfl, _⟩ | ⟨g, cap, cur, rfl, h1, h2, h3⟩
  · cases hb
  · cases hb; exact (Array.getElem?_eq_some_iff.1 h2).1
theorem alloc_lt (w : World) (o : Obj) {b : Nat} (h : b < w.heap.size) : (w.alloc o).heap[b]? = w.heap[b]? := (MapKept.heap_alloc w o).2 b h
theorem alloc_size (w : World) (o : Obj) : (w.alloc o).heap.size = w.heap.size + 1 := by show (w.heap.push o).size = _; simp
theorem rb_lt {E w G x} (T : TypedE E w G) (hx : x < G.k) : (G.lay x).rb < w.heap.size := T.lt (T.rb x hx) (by simp)
theorem rb_ne {E w G x} (T : TypedE E w G) (hx : x < G.k) {b : Nat} (h : (G.kd b).t ≠ 2) : (G.lay x).rb ≠ b := fun e => h (by rw [← e, T.rb x hx])

/-- the row of fresh names, as a row that is owned -/
theorem FrOk.own {w G x v} {E} {m : Nat} (T : TypedE E w G) (h : FrOk { G with t := m } x v) (hE : ∀ b, (G.kd b).t = 16 → ¬ E b) : ∃ n xs, w.ownsRow G.w0.heap.size 9 1 v n xs ∧ n ≤ m ∧ ∀ b, v.ownBlock = some b → (G.kd b).t = 16 ∧ (G.kd b).x = x := by
  rcases h with rfl | ⟨b, n, c, rfl, h1, h2, h3⟩
  · exact ⟨0, [], ⟨rfl, .inl ⟨rfl, rfl⟩⟩, Nat.zero_le _, fun b h => by cases h⟩
  · have h3 : G.kd b = kSp x c := h3
    obtain ⟨o, k1, arr, rfl, k2, k3⟩ := T.obj h3 (by simp) (hE b (by rw [h3]))
    refine ⟨n, arr.toList.take n, ⟨?_, .inr ⟨b, c, arr, rfl, T.new h3 (by simp), k1, h1, k3, by simpa using k2, by simp⟩⟩, h2, fun b' h => by cases h; rw [h3]; exact ⟨rfl, rfl⟩⟩
    have : arr.size = c := k2
    simp; omega

/-- the fresh name appended and stored -/
theorem Op22.fresh {G G1 x u v n xs w v' w2 nf o} {ys zs : List Value} (O : Op22 G G1 x u v n xs w) (hx : x < G.k) (hf : w.ownsRow G.w0.heap.size 9 1 v nf zs) (hvb : ∀ b, v.ownBlock = some b → (G1.kd b).t = 16 ∧ (G1.kd b).x = x) (hown : w2.ownsRow G.w0.heap.size 9 1 v' (nf + 1) ys) (hg : (w.alloc o).grownBy w2 v.ownBlock) (hloc : v'.ownBlock = v.ownBlock ∨ v'.ownBlock = some (w.alloc o).heap.size) (hnf : nf ≤ G.t) :
    ∃ G2, Op22 G G2 x u v' n xs (w2.setCell ⟨(G.lay x).rb, 2, none⟩ v') := by
  have hlay := O.hl
  have hrbk : G1.kd (G.lay x).rb = kRec x := by have := O.T.rb x (by rw [O.hk]; exact hx); rw [hlay] at this; exact this
  have hrbl : (G.lay x).rb < w.heap.size := O.T.lt hrbk (by simp)
  -- the old row is told by nobody
  obtain ⟨Ga, Ta, ga1, ga2, ga3, ga4, ga5, ga6, ga7, ga8⟩ : ∃ Ga, TypedE (fun b => b = (G.lay x).rb) w Ga ∧ Ga.k = G1.k ∧ Ga.lay = G1.lay ∧ Ga.w0 = G1.w0 ∧ Ga.qs = G1.qs ∧ Ga.rs = G1.rs ∧ Ga.t = G1.t ∧ (∀ b, v.ownBlock = some b → (Ga.kd b).t = 15) ∧ ∀ b, v.ownBlock ≠ some b → Ga.kd b = G1.kd b := by
    cases hv : v.ownBlock with
    | none => exact ⟨G1, O.T, rfl, rfl, rfl, rfl, rfl, rfl, (fun b h => by cases h), fun _ _ => rfl⟩
    | some fb =>
      obtain ⟨h1, h2⟩ := hvb fb hv
      refine ⟨G1.put fb kAny, O.T.rekind kAny (.inr (.inr ⟨.inr h1, by rw [h2, hlay]⟩)) (by rcases hf.2 with ⟨rfl, _⟩ | ⟨g, cap, cur, rfl, k1, _⟩; cases hv; cases hv; rw [O.hw]; exact k1) (fun _ _ _ => trivial) ⟨by simp, by simp, by simp, by simp, by simp⟩, rfl, rfl, rfl, rfl, rfl, rfl, (fun b h => by cases h; rw [Gh.put_at]), fun b h => G1.put_ne _ (fun e => h (by rw [e]))⟩
  have Tb := Ta.alloc (o := o) kAny trivial ⟨by simp, by simp, by simp, by simp, by simp⟩
  have Tc := Tb.grown hg (fun b hb => .inr (by
    rw [Ga.put_ne _ (Nat.ne_of_lt (own_lt hf hb))]; exact ga7 b hb))
  -- the new row
  rcases hown.2 with ⟨_, h0⟩ | ⟨g, cap, cur, rfl, k1, k2, k3, k4, k5, k6⟩
  · omega
  have hgl : g < w2.heap.size := (Array.getElem?_eq_some_iff.1 k2).1
  have hgk : (((Ga.put w.heap.size kAny).grow (w.alloc o).heap.size w2.heap.size).kd g).t = 15 := by
    rcases hloc with h | h
    · have hlt : g < w.heap.size := own_lt hf h.symm
      rw [Gh.grow_lt _ (by rw [alloc_size]; omega), Ga.put_ne _ (Nat.ne_of_lt hlt)]
      exact ga7 g h.symm
    · have : g = (w.alloc o).heap.size := by simpa [Value.ownBlock] using h
      rw [Gh.grow_in _ (by omega) hgl]
  have hgrb : g ≠ (G.lay x).rb := fun e => by
    rw [e, Gh.grow_lt _ (by rw [alloc_size]; omega), Ga.put_ne _ (Nat.ne_of_lt hrbl), ga8 _ (fun h => by have := (hvb _ h).1; rw [hrbk] at this; simp at this), hrbk] at hgk
    simp at hgk
  have Td := Tc.rekind (b := g) (kSp x cap) (.inr (.inl hgk)) (by show Ga.w0.heap.size ≤ g; rw [ga3, O.hw]; exact k1) (fun ob ho _ => by
    rw [k2] at ho; cases ho
    exact ⟨cur, rfl, by show cur.size = cap; omega, k4⟩) ⟨by simp, by simp, by simp, by simp, by simp⟩
  have Te := Td.setE (b := (G.lay x).rb) (i := 2) (v := .slice (some ⟨g, 0, none⟩) (nf + 1) cap) (.inl rfl)
  have same : ∀ b, b < w.heap.size → v.ownBlock ≠ some b → b ≠ g → ((((Ga.put w.heap.size kAny).grow (w.alloc o).heap.size w2.heap.size).put g (kSp x cap))).kd b = G1.kd b := fun b h1 h2 h3 => by
    rw [Gh.put_ne _ _ h3, Gh.grow_lt _ (by rw [alloc_size]; omega), Ga.put_ne _ (Nat.ne_of_lt h1), ga8 b h2]
  have hrr : w2.heap[(G.lay x).rb]? = some (.cells #[u, .bool false, v] 38 (0, 0)) := by
    rw [hg.block _ (by rw [alloc_size]; omega) (fun h => by have := (hvb _ h.symm).1; rw [hrbk] at this; simp at this), alloc_lt _ _ hrbl]; exact O.hr
  have hub : ∀ b, u.ownBlock = some b → b < w.heap.size ∧ v.ownBlock ≠ some b ∧ b ≠ g ∧ b ≠ (G.lay x).rb := fun b hb => by
    have h15 := O.any b hb
    have hl := own_lt O.own hb
    have h1 : v.ownBlock ≠ some b := fun h => by have := (hvb b h).1; omega
    refine ⟨hl, h1, fun e => ?_, fun e => by rw [e, hrbk] at h15; simp at h15⟩
    subst e
    rcases hloc with h | h
    · exact h1 h.symm
    · have : b = (w.alloc o).heap.size := by simpa [Value.ownBlock] using h
      rw [alloc_size] at this; omega
  refine ⟨_, Te, by show Ga.k = _; rw [ga1, O.hk], by show Ga.lay = _; rw [ga2, O.hl], by show Ga.w0 = _; rw [ga3, O.hw], by show Ga.qs = _; rw [ga4, O.hq], by show Ga.rs = _; rw [ga5, O.hrs], by show Ga.t = _; rw [ga6, O.ht], ?_, ?_, ?_, ?_, ?_, ?_⟩
  · intro b
    rcases O.hkd b with h | h | h
    · exact .inl h
    · exact .inr (.inl h)
    · by_cases h0 : (G.kd b).t = 0
      · exact .inl h0
      · by_cases h16 : (G.kd b).t = 16
        · exact .inr (.inl (.inr h16))
        · have hl : b < w.heap.size := O.T.lt h h0
          have hv' : v.ownBlock ≠ some b := fun e => by have := (hvb b e).1; rw [h] at this; exact h16 this
          have hbg : b ≠ g := fun e => by
            subst e
            rcases hloc with k | k
            · exact hv' k.symm
            · have : b = (w.alloc o).heap.size := by simpa [Value.ownBlock] using k
              rw [alloc_size] at this; omega
          exact .inr (.inr (by rw [← h]; exact same b hl hv' hbg))
  · rw [setCell_at hrr]; rfl
  · exact .inr ⟨g, nf + 1, cap, rfl, k3, by show nf + 1 ≤ Ga.t; rw [ga6, O.ht]; omega, Gh.put_at _ _ _⟩
  · refine own_of_block O.own fun b hb => ?_
    obtain ⟨h1, h2, h3, h4⟩ := hub b hb
    rw [setCell_other h4, hg.block b (by rw [alloc_size]; omega) (fun e => h2 e.symm), alloc_lt _ _ h1]
  · intro b hb
    obtain ⟨h1, h2, h3, h4⟩ := hub b hb
    rw [same b h1 h2 h3]; exact O.any b hb
  · exact O.org

/-- the row of names grown by one and stored -/
theorem Op22.grow {G G1 x u v n xs w u' w2 o} {ys : List Value} (O : Op22 G G1 x u v n xs w) (hx : x < G.k) (hown : w2.ownsRow G.w0.heap.size 9 1 u' (n + 1) ys) (hg : (w.alloc o).grownBy w2 u.ownBlock) (hloc : u'.ownBlock = u.ownBlock ∨ u'.ownBlock = some (w.alloc o).heap.size) :
    ∃ G2, Op22 G G2 x u' v (n + 1) ys (w2.setCell ⟨(G.lay x).rb, 0, none⟩ u') := by
  have hlay := O.hl
  have hrbk : G1.kd (G.lay x).rb = kRec x := by have := O.T.rb x (by rw [O.hk]; exact hx); rw [hlay] at this; exact this
  have hrbl : (G.lay x).rb < w.heap.size := O.T.lt hrbk (by simp)
  have Tb := O.T.alloc (o := o) kAny trivial ⟨by simp, by simp, by simp, by simp, by simp⟩
  have Tc := Tb.grown hg (fun b hb => .inr (by rw [G1.put_ne _ (Nat.ne_of_lt (own_lt O.own hb))]; exact O.any b hb))
  have same : ∀ b, b < w.heap.size → ((G1.put w.heap.size kAny).grow (w.alloc o).heap.size w2.heap.size).kd b = G1.kd b := fun b h1 => by
    rw [Gh.grow_lt _ (by rw [alloc_size]; omega), G1.put_ne _ (Nat.ne_of_lt h1)]
  have Te := Tc.setE (b := (G.lay x).rb) (i := 0) (v := u') (.inl rfl)
  have hrr : w2.heap[(G.lay x).rb]? = some (.cells #[u, .bool false, v] 38 (0, 0)) := by
    rw [hg.block _ (by rw [alloc_size]; omega) (fun h => by have := O.any _ h.symm; rw [hrbk] at this; simp at this), alloc_lt _ _ hrbl]; exact O.hr
  have hub : ∀ b, u'.ownBlock = some b → (((G1.put w.heap.size kAny).grow (w.alloc o).heap.size w2.heap.size).kd b).t = 15 := fun b hb => by
    have hl := own_lt hown hb
    rcases hloc with h | h
    · rw [hb] at h
      rw [same b (own_lt O.own h.symm)]; exact O.any b h.symm
    · rw [hb] at h; cases h
      rw [Gh.grow_in _ (Nat.le_refl _) hl]
  refine ⟨_, Te, O.hk, O.hl, O.hw, O.hq, O.hrs, O.ht, ?_, ?_, ?_, ?_, ?_, ?_⟩
  · intro b
    rcases O.hkd b with h | h | h
    · exact .inl h
    · exact .inr (.inl h)
    · by_cases h0 : (G.kd b).t = 0
      · exact .inl h0
      · exact .inr (.inr (by rw [← h]; exact same b (O.T.lt h h0)))
  · rw [setCell_at hrr]; rfl
  · rcases O.fr with h | ⟨b, n', c', k1, k2, k3, k4⟩
    · exact .inl h
    · exact .inr ⟨b, n', c', k1, k2, k3, by rw [same b (O.T.lt k4 (by simp))]; exact k4⟩
  · refine own_of_block hown fun b hb => setCell_other fun e => ?_
    have := hub b hb
    rw [e, same _ hrbl, hrbk] at this
    simp at this
  · exact hub
  · intro b hb
    rcases hloc with h | h
    · rw [hb] at h; exact O.org b h.symm
    · rw [hb] at h; cases h
      rcases O.hkd (w.alloc o).heap.size with h | h | h
      · exact .inl h
      · exact .inr h
      · rw [O.T.fr _ (by rw [alloc_size]; omega)] at h
        exact .inl (by rw [← h])

/-- a store into the row of names -/
theorem Op22.store {G G1 x g c v n xs w} (O : Op22 G G1 x (.slice (some ⟨g, 0, none⟩) n c) v n xs w) (hx : x < G.k) (i : Nat) (hi : i < n) (y : Value) : Op22 G G1 x (.slice (some ⟨g, 0, none⟩) n c) v n (xs.set i y) (w.setCell ⟨g, i, none⟩ y) := by
  have hrbk : G1.kd (G.lay x).rb = kRec x := by have := O.T.rb x (by rw [O.hk]; exact hx); rw [O.hl] at this; exact this
  have hgk := O.any g rfl
  have hne : (G.lay x).rb ≠ g := fun e => by rw [← e, hrbk] at hgk; simp at hgk
  refine ⟨O.T.setE (.inr hgk), O.hk, O.hl, O.hw, O.hq, O.hrs, O.ht, O.hkd, by rw [setCell_other hne]; exact O.hr, O.fr, ?_, O.any, O.org⟩
  rcases O.own.2 with ⟨h, _⟩ | ⟨g', cap, cur, he, k1, k2, k3, k4, k5, k6⟩
  · cases h
  cases he
  refine ⟨by simpa using O.own.1, .inr ⟨g, c, _, rfl, k1, setCell_at k2, k3, k4, by simpa using k5, ?_⟩⟩
  rw [Array.toList_setIfInBounds, ← k6]
  simp only [Nat.mul_one]
  rw [List.take_set]
theorem Op22.drew {G G1 x u v n xs w} (O : Op22 G G1 x u v n xs w) : Op22 G G1 x u v n xs w.drew := ⟨O.T.drew, O.hk, O.hl, O.hw, O.hq, O.hrs, O.ht, O.hkd, O.hr, O.fr, ⟨O.own.1, O.own.2⟩, O.any, O.org⟩

/-- shut again -/
theorem Op22.shut {G G1 x g c v n w} {l : List ByteArray} (O : Op22 G G1 x (.slice (some ⟨g, 0, none⟩) n c) v n (l.map .string) w) (hx : x < G.k) (hs : sorted l) (hi : ∀ s, s ∈ l → ID G s ∧ s ≠ nm x) :
    ∃ G', Le 1 G G' ∧ Typed0 w G' ∧ G'.qs = G.qs ∧ G'.rs = fun y => if y = x then l else G.rs y := by
  have hrbk : G1.kd (G.lay x).rb = kRec x := by have := O.T.rb x (by rw [O.hk]; exact hx); rw [O.hl] at this; exact this
  have hgk := O.any g rfl
  have hne : (G.lay x).rb ≠ g := fun e => by rw [← e, hrbk] at hgk; simp at hgk
  rcases O.own.2 with ⟨h, _⟩ | ⟨g', cap, cur, he, k1, k2, k3, k4, k5, k6⟩
  · cases h
  cases he
  have hln : l.length = n := by have := O.own.1; simpa using this
  have hID : ∀ s, ID G s → ID G1 s := fun s ⟨i, h1, h2⟩ => ⟨i, by rw [O.hk]; exact h1, h2⟩
  have T1 := O.T.rekind (b := g) (kIds x c l) (.inr (.inl hgk)) (by rw [O.hw]; exact k1) (fun o ho _ => by
    rw [k2] at ho; cases ho
    refine ⟨cur, rfl, ⟨by show cur.size = c; omega, k4⟩, by show l.length ≤ c; omega, fun i s hs => ?_⟩
    have hlt : i < l.length := (List.getElem?_eq_some_iff.1 hs).1
    have : (cur.toList.take (n * 1))[i]? = some (Value.string s) := by rw [k6]; simp [hs]
    rw [List.getElem?_take_of_lt (by omega)] at this
    simpa using this) ⟨by simp, by simp, by simp, by simp, by simp⟩
  have T2 := T1.to_rs x l (by show _ = _; rw [show (G1.put g (kIds x c l)).lay = G.lay from O.hl]) (fun _ => hs) (fun _ s hs' => ⟨hID s (hi s hs').1, (hi s hs').2⟩)
  refine ⟨_, ?_, T2.shut ?_, O.hq, ?_⟩
  · refine ⟨O.hk, O.hw, O.hl, ?_, ?_, fun b => ?_⟩
    · show G.t ≤ G1.t; rw [O.ht]; omega
    · show G1.t ≤ _; rw [O.ht]; omega
    · rcases O.hkd b with h | h | h
      · exact .inl h
      · exact .inr (.inl h)
      · by_cases e : b = g
        · subst e
          rcases O.org b rfl with h' | h'
          · exact .inl h'
          · exact .inr (.inl h')
        · exact .inr (.inr (.inl (by rw [← h]; exact (G1.put_ne _ e).symm)))
  · rintro b o rfl - ho
    rw [O.hr] at ho
    cases ho
    rw [show ({ (G1.put g (kIds x c l)) with rs := fun y => if y = x then l else (G1.put g (kIds x c l)).rs y } : Gh).kd (G.lay x).rb = kRec x by show (G1.put g (kIds x c l)).kd _ = _; rw [G1.put_ne _ hne]; exact hrbk]
    refine ⟨_, v, rfl, .inr ⟨g, c, by simp [hln], ?_⟩, ?_⟩
    · show (G1.put g (kIds x c l)).kd g = _
      rw [Gh.put_at]; simp
    · rcases O.fr with h | ⟨b, n', c', j1, j2, j3, j4⟩
      · exact .inl h
      · refine .inr ⟨b, n', c', j1, j2, j3, ?_⟩
        have : b ≠ g := fun e => by subst e; rw [j4] at hgk; simp at hgk
        show (G1.put g (kIds x c l)).kd b = _
        rw [G1.put_ne _ this]; exact j4
  · show (fun y => if y = x then l else (G1.put g (kIds x c l)).rs y) = _
    rw [show (G1.put g (kIds x c l)).rs = G.rs from O.hrs]

/-- the recorder opened -/
theorem Op22.start {w G x} (T : Typed0 w G) (hx : x < G.k) (ht : G.t + 1 ≤ 100000) : ∃ G1 ad c v, Op22 G G1 x (.slice ad (G.rs x).length c) v (G.rs x).length ((G.rs x).map .string) w ∧ FrOk { G1 with t := G.t } x v := by
  obtain ⟨u, v, hr, hu, hv⟩ := T.recd hx id
  have Tt := T.to_t (G.t + 1) (by omega) ht
  have hvt : FrOk { G with t := G.t + 1 } x v := hv.ext (G' := { G with t := G.t + 1 }) (by constructor <;> first | rfl | exact Nat.le_succ _ | exact fun _ => .inr (.inr (.inr (.inl rfl))))
  rcases hu with ⟨rfl, hu⟩ | ⟨g, c, rfl, hg⟩
  · refine ⟨{ G with t := G.t + 1 }, none, 0, v, ⟨Tt.weaken (fun _ h => h.elim), rfl, rfl, rfl, rfl, rfl, rfl, fun b => .inr (.inr rfl), ?_, hvt, ?_, (fun b h => by cases h), (fun b h => by cases h)⟩, hv⟩
    · rw [hu]; exact hr
    · rw [hu]; exact ⟨rfl, .inl ⟨rfl, rfl⟩⟩
  · obtain ⟨o, hgo, arr, rfl, ⟨hsz, hmax⟩, hle, hcell⟩ := T.obj hg (by simp) id
    have hgw := T.new hg (by simp)
    have T1 : TypedE (fun b => b = (G.lay x).rb) w (({ G with t := G.t + 1 } : Gh).put g kAny) := (Tt.weaken (fun _ h => h.elim)).rekind kAny (.inr (.inr ⟨.inl (by rw [show ({ G with t := G.t + 1 } : Gh).kd g = _ from hg]), by rw [show ({ G with t := G.t + 1 } : Gh).kd g = _ from hg]⟩)) hgw (fun _ _ _ => trivial) ⟨by simp, by simp, by simp, by simp, by simp⟩
    refine ⟨_, _, c, v, ⟨T1, rfl, rfl, rfl, rfl, rfl, rfl, fun b => ?_, hr, ?_, ⟨by simp, .inr ⟨g, c, arr, rfl, hgw, hgo, hle, hmax, by simpa using hsz, ?_⟩⟩, (fun b h => by cases h; rw [Gh.put_at]), fun b h => by cases h; rw [hg]; exact .inr (.inl rfl)⟩, ?_⟩
    rotate_left 3
    · rcases hv with h | ⟨b, n', c', k1, k2, k3, k4⟩
      · exact .inl h
      · exact .inr ⟨b, n', c', k1, k2, k3, by show (({ G with t := G.t + 1 } : Gh).put g kAny).kd b = _; rw [Gh.put_ne _ _ (kd_ne k4 hg (by simp))]; exact k4⟩
    · by_cases e : b = g
      · subst e; exact .inr (.inl (.inl (by rw [hg])))
      · exact .inr (.inr (Gh.put_ne _ _ e))
    · rcases hvt with h | ⟨b, n', c', k1, k2, k3, k4⟩
      · exact .inl h
      · exact .inr ⟨b, n', c', k1, k2, k3, by rw [Gh.put_ne _ _ (kd_ne k4 (show ({ G with t := G.t + 1 } : Gh).kd g = _ from hg) (by simp))]; exact k4⟩
    · apply List.ext_getElem?
      intro i
      by_cases hi : i < (G.rs x).length
      · rw [List.getElem?_take_of_lt (by omega)]
        have h1 := hcell i _ (getD_some hi)
        simp only [Array.getElem?_toList]
        rw [h1]
        simp [hi]
      · have : arr.size = c := hsz
        rw [List.getElem?_eq_none (by simp; omega), List.getElem?_eq_none (by simp; omega)]
theorem Op22.cell {G G1 x ad n c v w} {xs : List Value} (O : Op22 G G1 x (.slice ad n c) v n xs w) {i : Nat} (hi : i < n) : ∃ g, ad = some ⟨g, 0, none⟩ ∧ w.cell? ⟨g, i, none⟩ = xs[i]? ∧ (∀ j, w.frozen? ⟨g, j, none⟩ = false) ∧ n ≤ c := by
  rcases O.own.2 with ⟨h, h0⟩ | ⟨g', cap, cur, he, k1, k2, k3, k4, k5, k6⟩
  · omega
  cases he
  refine ⟨g', rfl, ?_, fz_of k2, k3⟩
  rw [cell_of k2, ← k6]
  simp only [Nat.mul_one]
  rw [List.getElem?_take_of_lt hi]; simp
end Go.Proofs.Qxb6002353a
