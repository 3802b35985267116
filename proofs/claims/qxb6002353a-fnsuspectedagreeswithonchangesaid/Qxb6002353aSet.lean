/-
  SEAT b6002353a: set.
-/
import Derived.Test.Qxb6002353aOnC
namespace Go.Proofs.Qxb6002353a
open Go.RowKit
set_option linter.unusedVariables false
set_option linter.unusedSimpArgs false

def Un (c : Nat) (G : Gh) (e : Ending) (w' : World) : Prop := e = .returned (.tuple #[]) ∧ ∃ G', Le c G G' ∧ Typed w' G'

theorem TypedE.exact {E w G b o} (T : TypedE E w G) (h : G.kd b = kEx o) (hE : ¬ E b) : w.heap[b]? = some o := by
  obtain ⟨o', h1, h2⟩ := T.obj h (by simp) hE
  have : o' = o := h2
  rw [h1, this]

set_option maxHeartbeats 2000000 in
set_option maxRecDepth 100000 in
theorem c21 {w G x s su} (T : Typed0 w G) (hx : x < G.k) (hsi : ID G s) (hsx : su = true → s ≠ nm x) (h1 : su = true → s ∉ G.rs x) (h2 : su = false → s ∈ G.rs x) (ht : G.t + 1 ≤ 100000) :
    Calls Try.prog 21 #[.string s, .bool su, .pointer (some ⟨(G.lay x).cb, 0, none⟩)] w fun e w' => OnPost G x (fun t => if su = true then (t ∈ G.rs x ∨ t = s) else (t ∈ G.rs x ∧ t ≠ s)) e w' := by
  obtain ⟨o, k1, k2⟩ := T.obj (T.cb x hx) (by simp) id
  have k2 : o = _ := k2
  subst k2
  have c0 : w.cell? ⟨(G.lay x).cb, 0, none⟩ = some (.pointer (some ⟨(G.lay x).rb, 0, none⟩)) := (cell_of k1 _).trans rfl
  have TT := hid T
  clear k1 T
  cases su with
  | true =>
    have C := hid (c22_t TT.out hx hsi (hsx rfl) (h1 rfl) ht)
    clear hsx h1 h2 ht hsi
    go_enter Try.func21, Try.ntmps21
    go_wp2_with fail
    refine C.out.mono ?_
    rintro e w' ⟨rfl, h⟩
    have H := hid h
    clear h
    go_wp2_with fail
    go_end0
    refine ⟨rfl, ?_⟩
    simpa using H.out
  | false =>
    have C := hid (c22_f TT.out hx (h2 rfl))
    clear hsx h1 h2 ht hsi
    go_enter Try.func21, Try.ntmps21
    go_wp2_with fail
    refine C.out.mono ?_
    rintro e w' ⟨rfl, h⟩
    have H := hid h
    clear h
    go_wp2_with fail
    go_end0
    refine ⟨rfl, ?_⟩
    simpa using H.out

theorem func_ne_nil (p : Value) (w : World) : (binOp .neq 53 (.func (.func 21) #[] #[p]) .nilFunc).run Try.prog w = .ok (.bool true) w := by kernel_rfl
set_option maxHeartbeats 4000000 in
set_option maxRecDepth 100000 in
theorem c49 {w G x s tg su} (T : Typed w G) (hx : x < G.k) (hsi : ID G s) (htg : U64 tg) (hsx : su = true → s ≠ nm x) (ht : G.t + 1 ≤ 100000) :
    Calls Try.prog 49 #[.pointer (some ⟨(G.lay x).nb, 0, none⟩), .string s, .agg #[.int .u64 tg, .bool su]] w fun e w' => Un 1 G e w' := by
  have hf : G.kd w.heap.size = kFree := T.T.fr _ (Nat.le_refl _)
  have hbx : (G.lay x).nb ≠ w.heap.size := fun e => by have := T.T.nb x hx; rw [e, hf] at this; exact absurd (congrArg Kd.t this) (by simp)
  -- the pair's box
  have T1 : Typed0 (w.alloc (.cells #[.int .u64 tg, .bool su] 66)) (G.put w.heap.size (kEx (.cells #[.int .u64 tg, .bool su] 66 (0, 0)))) := T.T.alloc _ rfl ⟨by simp, by simp, by simp, by simp, by simp⟩
  have L1 : Le 0 G (G.put w.heap.size (kEx (.cells #[.int .u64 tg, .bool su] 66 (0, 0)))) := Le.put _ (by rw [hf])
  have A1 : Agree (G.put w.heap.size (kEx (.cells #[.int .u64 tg, .bool su] 66 (0, 0)))) := T.A
  have e1 : (G.put w.heap.size (kEx (.cells #[.int .u64 tg, .bool su] 66 (0, 0)))).kd w.heap.size = kEx (.cells #[.int .u64 tg, .bool su] 66 (0, 0)) := Gh.put_at _ _ _
  have hl1 : (G.put w.heap.size (kEx (.cells #[.int .u64 tg, .bool su] 66 (0, 0)))).lay = G.lay := rfl
  have hk1 : (G.put w.heap.size (kEx (.cells #[.int .u64 tg, .bool su] 66 (0, 0)))).k = G.k := rfl
  have ht1 : (G.put w.heap.size (kEx (.cells #[.int .u64 tg, .bool su] 66 (0, 0)))).t = G.t := rfl
  generalize (G.put w.heap.size (kEx (.cells #[.int .u64 tg, .bool su] 66 (0, 0)))) = G1 at *
  have b0 : (w.alloc (.cells #[.int .u64 tg, .bool su] 66)).cell? ⟨w.heap.size, 0, none⟩ = some (.int .u64 tg) := (cell_of (T1.exact e1 id) _).trans rfl
  have b1 : (w.alloc (.cells #[.int .u64 tg, .bool su] 66)).cell? ⟨w.heap.size, 1, none⟩ = some (.bool su) := (cell_of (T1.exact e1 id) _).trans rfl
  have hx1 : x < G1.k := by rw [hk1]; exact hx
  obtain ⟨tg0, su0, ok0, look, -, hq0, -⟩ := look_qm T1 hx1 id s
  obtain ⟨v1, vo1, n1⟩ := T1.node hx1 id
  have hsi1 := hsi.le L1
  obtain ⟨o2, run2, T2⟩ := upd_qm (tg := tg) T1.drew hx1 hsi1 htg hsx
  obtain ⟨W2, hW2⟩ : ∃ W, W = ChangeMaps.setBlock (w.alloc (.cells #[.int .u64 tg, .bool su] 66)).drew (G1.lay x).qm o2 := ⟨_, rfl⟩
  rw [← hW2] at run2 T2
  have look0 : (Instr.lookup 61 (.map (some (G1.lay x).qm)) (.string s) false).run Try.prog (w.alloc (.cells #[.int .u64 tg, .bool su] 66)) = .ok (.agg #[.int .u64 tg0, .bool su0]) (w.alloc (.cells #[.int .u64 tg, .bool su] 66)) := look 0
  have nc8 := n1.c8
  rw [hl1] at look0 nc8 run2
  have f66 := field66
  have HH := hid (And.intro T1 (And.intro T2 (And.intro L1 (And.intro A1 (And.intro hq0 hW2)))))
  have HSI := hid hsi
  clear htg look n1 vo1 hW2 T2 T1 L1 A1 hq0 hsi hsi1
  go_enter Try.func49, Try.ntmps49
  go_wp2_with fail
  go_region
  obtain ⟨T1, T2, L1, A1, hq0, hW2⟩ := HH.out
  clear b0 b1 nc8 look0 run2 HH
  have hk2 : ∀ q, ({ G1 with qs := q } : Gh).k = G1.k := fun _ => rfl
  have e2 : ({ G1 with qs := fun y => if y = x then (fun t => if t = s then su = true else G1.qs x t) else G1.qs y } : Gh).kd w.heap.size = kEx (.cells #[.int .u64 tg, .bool su] 66 (0, 0)) := e1
  have hl2 : ({ G1 with qs := fun y => if y = x then (fun t => if t = s then su = true else G1.qs x t) else G1.qs y } : Gh).lay = G.lay := hl1
  have L2 : Le 0 G { G1 with qs := fun y => if y = x then (fun t => if t = s then su = true else G1.qs x t) else G1.qs y } := ⟨L1.k, L1.w0, L1.lay, L1.t0, L1.t1, L1.kd⟩
  have hx2 : x < ({ G1 with qs := fun y => if y = x then (fun t => if t = s then su = true else G1.qs x t) else G1.qs y } : Gh).k := hx1
  have hrs2 : ({ G1 with qs := fun y => if y = x then (fun t => if t = s then su = true else G1.qs x t) else G1.qs y } : Gh).rs = G1.rs := rfl
  have hqs2 : ({ G1 with qs := fun y => if y = x then (fun t => if t = s then su = true else G1.qs x t) else G1.qs y } : Gh).qs = fun y => if y = x then (fun t => if t = s then su = true else G1.qs x t) else G1.qs y := rfl
  have ht2 : ({ G1 with qs := fun y => if y = x then (fun t => if t = s then su = true else G1.qs x t) else G1.qs y } : Gh).t = G1.t := rfl
  generalize ({ G1 with qs := fun y => if y = x then (fun t => if t = s then su = true else G1.qs x t) else G1.qs y } : Gh) = G2 at *
  have hsi2 : ID G2 s := HSI.out.le L2
  obtain ⟨v2, vo2, n2⟩ := T2.node hx2 id
  have T3 := T2.n9 (z := .slice none 0 0) hx2 (.inl rfl)
  obtain ⟨o4, run4, T4⟩ := upd_nw T3 hx2 hsi2 true
  obtain ⟨W4, hW4⟩ : ∃ W, W = ChangeMaps.setBlock (W2.setCell ⟨(G2.lay x).nb, 9, none⟩ (.slice none 0 0)) (G2.lay x).nw o4 := ⟨_, rfl⟩
  rw [← hW4] at run4 T4
  obtain ⟨v4, vo4, n4⟩ := T4.node hx2 id
  have nc9 := n2.c9
  have nf2 := n2.fz
  have nc11 := n2.c11
  have mc3 := n4.c3
  have mc15 := n4.c15
  have mc23 := n4.c23
  have mf := n4.fz
  have b1 : W4.cell? ⟨w.heap.size, 1, none⟩ = some (.bool su) := (cell_of (T4.exact e2 id) _).trans rfl
  have T5 := T4.n15 (z := v4.pa) hx2
  have A1' := hid A1
  have HH := hid (And.intro T5 (And.intro L2 hq0))
  have T5H := hid T5
  rw [hl2] at run4 nc9 nf2 nc11 mc3 mc15 mc23 mf
  clear n2 vo2 n4 vo4 T2 T3 T4 T5 hW2 hW4 L1 L2 T1 A1 hq0 hk2 e1 e2
  have hbx2 := hbx.symm
  have fnn := func_ne_nil
  have C21 : Hid (¬ su0 = su → Calls Try.prog 21 #[.string s, .bool su, .pointer (some ⟨(G.lay x).cb, 0, none⟩)] (W4.setCell ⟨(G.lay x).nb, 15, none⟩ (.int .u64 v4.pa)).drew fun e w' => OnPost G2 x (fun t => if su = true then (t ∈ G2.rs x ∨ t = s) else (t ∈ G2.rs x ∧ t ≠ s)) e w') := fun hne => by
    obtain ⟨T5, L2, hq0⟩ := HH.out
    have T6 := T5.drew
    rw [hl2] at T6
    have A := A1'.out x (by rw [hk1]; exact hx) s
    have c := c21 (su := su) T6 hx2 hsi2 hsx (fun h => by
      rw [hrs2]; intro hm
      have := hq0.2 (A.2 hm)
      rw [this, h] at hne; exact hne rfl) (fun h => by
      rw [hrs2]
      cases su0
      · rw [h] at hne; exact absurd rfl hne
      · exact A.1 (hq0.1 rfl)) (by rw [ht2, ht1]; exact ht)
    rw [hl2] at c
    exact c
  go_wp2_with fail
  · go_end0
    have he : su0 = su := by assumption
    obtain ⟨T5, L2, hq0⟩ := HH.out
    rw [hl2] at T5
    refine ⟨rfl, G2, L2.mono (by omega), T5, fun y hy t => ?_⟩
    have A := A1'.out y (by rw [hk1, ← L2.k]; exact hy) t
    rw [hqs2, hrs2]
    by_cases hyx : y = x
    · subst hyx
      simp only [if_true]
      by_cases hts : t = s
      · subst hts; rw [if_pos rfl, ← A, ← hq0, he]
      · rw [if_neg hts]; exact A
    · simp only [if_neg hyx]; exact A
  · have hne : ¬ su0 = su := by assumption
    have CC := hid (C21.out hne)
    clear C21
    go_region_with (go_at_call 21; refine CC.out.mono ?_; rintro e w' ⟨rfl, h⟩; have H := hid h; clear h)
    all_goals
      go_wp2_with fail
      go_end0
      obtain ⟨G3, l, L3, T3, q3, r3, m3⟩ := H.out
      obtain ⟨T5, L2, hq0⟩ := HH.out
      refine ⟨rfl, G3, (L2.trans L3).mono (by omega), T3, fun y hy t => ?_⟩
      have A := A1'.out y (by rw [hk1, ← L2.k, ← L3.k]; exact hy) t
      rw [q3, r3, hqs2]
      by_cases hyx : y = x
      · subst hyx
        simp only [if_true]
        rw [m3 t, hrs2]
        by_cases hts : t = s
        · subst hts; rw [if_pos rfl]
          cases su <;> simp
        · rw [if_neg hts, A]
          cases su <;> simp [hts]
      · simp only [if_neg hyx]; rw [hrs2]; exact A
  · exfalso
    rename_i h1 h2
    revert h1 h2
    cases su0 <;> cases su <;> simp
end Go.Proofs.Qxb6002353a
