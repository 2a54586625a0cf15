/-
  MERGE OF ANY NUMBER OF STREAMS: from the make of the channel to the fan-in's beginning.
-/
import Derived.Test.YtmmjlngbiilagaaGreatDoorT19

namespace Go.Proofs.YtmmjlngbiilagaaGreatDoor
open Go Go.Conc Go.RowKit Go.Conc.Lib Go.ConcR.Gen Go.Lib
open Go.ConcR (KK wgBlock WgAt stA smA rd wr mk DC0)
open Go.ConcN (WgLive AtD4 WD sumTo upd upd_same upd_ne)

/-! ### what is merged -/
theorem flatMap_congr' {α β : Type} {f g : α → List β} : ∀ {l : List α}, (∀ x ∈ l, f x = g x) → l.flatMap f = l.flatMap g
  | [], _ => rfl
  | x :: l, h => by
    rw [List.flatMap_cons, List.flatMap_cons, h x (by simp), flatMap_congr' fun y hy => h y (by simp [hy])]
theorem perm_upd {rem : Nat → List Value} {i : Nat} {v : Value} {vs : List Value} (hr : rem i = v :: vs) : ∀ N, i < N → List.Perm ((List.range N).flatMap rem) (v :: (List.range N).flatMap (upd rem i vs)) := by
  intro N
  induction N with
  | zero => intro h; omega
  | succ N ih =>
    intro h
    rw [List.range_succ, List.flatMap_append, List.flatMap_append]
    simp only [List.flatMap_cons, List.flatMap_nil, List.append_nil]
    by_cases hi : i = N
    · subst hi
      rw [hr, upd_same]
      have e : (List.range i).flatMap (upd rem i vs) = (List.range i).flatMap rem := flatMap_congr' fun x hx => upd_ne rem vs (by have := List.mem_range.1 hx; omega)
      rw [e]
      exact List.perm_middle
    · rw [upd_ne rem vs (fun e => hi e.symm)]
      exact (ih (by omega)).append_right _
theorem mrg_perm {N : Nat} {vals : Nat → List Value} {l : List Value} {rem : Nat → List Value} (h : Mrg N vals l rem) : List.Perm (l ++ (List.range N).flatMap rem) ((List.range N).flatMap vals) := by
  induction h with
  | nil => exact .refl _
  | @take l rem i v vs _ hi hr ih =>
    refine .trans ?_ ih
    rw [List.append_assoc]
    exact List.Perm.append_left _ (perm_upd hr N hi).symm
def valsOf (sts : List St4) (i : Nat) : List Value := ((sts[i]?).map fun x => x.ms.map M4.val).getD []
def msAll (sts : List St4) : List M4 := sts.flatMap fun x => x.ms
theorem vals_all : ∀ (sts : List St4), (List.range sts.length).flatMap (valsOf sts) = (msAll sts).map M4.val := by
  intro sts
  induction sts with
  | nil => rfl
  | cons x sts ih =>
    have e : (List.range (x :: sts).length) = 0 :: (List.range sts.length).map (· + 1) := by
      rw [List.length_cons, List.range_succ_eq_map]
    rw [e, List.flatMap_cons, List.flatMap_map]
    have e1 : valsOf (x :: sts) 0 = x.ms.map M4.val := rfl
    have e2 : ((List.range sts.length).flatMap fun a => valsOf (x :: sts) (a + 1)) = (List.range sts.length).flatMap (valsOf sts) := flatMap_congr' fun y _ => by simp [valsOf]
    rw [e1, e2, ih]
    simp [msAll]
def PossG (sts : List St4) (l : List Value) : Prop := ∃ rem, Mrg sts.length (valsOf sts) l rem
def FullG (sts : List St4) (l : List Value) : Prop := ∃ rem, Mrg sts.length (valsOf sts) l rem ∧ ∀ i, i < sts.length → rem i = []
theorem val_inj {x y : M4} (h : x.val = y.val) : x = y := by
  obtain ⟨a, b, c, d⟩ := x
  obtain ⟨a', b', c', d'⟩ := y
  simp [M4.val, M4.cells] at h
  obtain ⟨rfl, rfl, rfl, rfl⟩ := h
  rfl
def unval : Value → M4
  | .agg cs => match cs.toList with
    | [.int _ t, .string m, .int _ s, .string p] => ⟨t, m, s, p⟩
    | _ => ⟨0, .empty, 0, .empty⟩
  | _ => ⟨0, .empty, 0, .empty⟩
theorem unval_val (x : M4) : unval x.val = x := rfl
theorem possG {sts : List St4} (hn : (msAll sts).length ≤ 100000) (l : List Value) (v : Value) (h : PossG sts (l ++ [v])) : l.length < 100000 ∧ ∃ u : M4, v = u.val := by
  obtain ⟨rem, h⟩ := h
  have hp := mrg_perm h
  rw [vals_all] at hp
  have h1 := hp.length_eq
  simp only [List.length_append, List.length_map, List.length_cons, List.length_nil] at h1
  refine ⟨by omega, ?_⟩
  have : v ∈ (msAll sts).map M4.val := hp.mem_iff.1 (by simp)
  obtain ⟨u, _, hu⟩ := List.mem_map.1 this
  exact ⟨u, hu.symm⟩
theorem fullG {sts : List St4} {lm : List M4} (h : FullG sts (lm.map M4.val)) : List.Perm lm (msAll sts) := by
  obtain ⟨rem, h, hn⟩ := h
  have hp := mrg_perm h
  rw [vals_all] at hp
  have e : (List.range sts.length).flatMap rem = [] := by
    rw [List.flatMap_eq_nil_iff]
    exact fun i hi => hn i (List.mem_range.1 hi)
  rw [e, List.append_nil] at hp
  have := hp.map unval
  simpa [Function.comp_def, unval_val] using this
noncomputable def tail4M : Code := match bodyM with | .seq _ (.seq _ t) => t | _ => .skip

/-- The world at the fan-in's beginning: the channel, its box, the group. -/
def w1F (w : World) : World := w.alloc (.chan 0 #[] false 0 0 false)
def w2F (w : World) : World := (w1F w).alloc (.cells #[.chan none] 82)
def w3F (w : World) : World := (w2F w).setRow (w.heap.size + 1) #[.chan (some w.heap.size)]
def wF (w : World) : World := (w3F w).alloc (.cells #[.int .u64 0, .int .u32 0] 91)
theorem size_wF (w : World) : (wF w).heap.size = w.heap.size + 3 := by simp [wF, w3F, w2F, w1F]
theorem old_wF (w : World) {b : Nat} (hb : b < w.heap.size) : (wF w).heap[b]? = w.heap[b]? := by
  unfold wF w3F w2F w1F
  rw [Below.heap_alloc _ _ b (by simp; omega), setRow_other _ _ b _ (by omega), Below.heap_alloc _ _ b (by simp; omega), Below.heap_alloc _ _ b hb]
theorem chan_wF (w : World) : (wF w).heap[w.heap.size]? = some (.chan 0 #[] false 0 0 false) := by
  unfold wF w3F w2F w1F
  rw [Below.heap_alloc _ _ _ (by simp; omega), setRow_other _ _ _ _ (by omega), Below.heap_alloc _ _ _ (by simp)]
  exact heap_alloc_new w _
theorem box_w2F (w : World) : (w2F w).heap[w.heap.size + 1]? = some (.cells #[.chan none] 82 (0, 0)) := by
  have := heap_alloc_new (w1F w) (.cells #[.chan none] 82)
  have e : (w1F w).heap.size = w.heap.size + 1 := by simp [w1F]
  rw [e] at this
  exact this
theorem box_wF (w : World) : (wF w).heap[w.heap.size + 1]? = some (.cells #[.chan (some w.heap.size)] 82 (0, 0)) := by
  unfold wF w3F
  rw [Below.heap_alloc _ _ _ (by simp [w2F, w1F])]
  exact setRow_heap _ _ _ _ _ _ (box_w2F w)
theorem wg_wF (w : World) : (wF w).heap[w.heap.size + 2]? = some (.cells #[.int .u64 0, .int .u32 0] 91 (0, 0)) := by
  have := heap_alloc_new (w3F w) (.cells #[.int .u64 0, .int .u32 0] 91)
  have e : (w3F w).heap.size = w.heap.size + 2 := by simp [w3F, w2F, w1F]
  rw [e] at this
  exact this

/-! ### what is listed there -/
theorem evL_F {F : Nat → Prop} {B : Nat} {ad : Addr} {wr : Bool} (h : ad.block < B) (hF : ¬ F ad.block) : Go.Conc.EvL (SF F) B ⟨.cell ad, wr, false⟩ := by
  refine ⟨fun x hx hs => ?_, by simp, by simp, h⟩
  simp only [ofEvent_cell0, MemAct.touch?, Option.some.injEq] at hx
  subst hx
  obtain ⟨b, hb, hb'⟩ := hs
  simp only [blk, Option.some.injEq] at hb'
  exact absurd (hb' ▸ hb) hF
section
variable {F : Nat → Prop} {Fe : Event → Prop} {w : World}
theorem dbF_new (ob : Obj) : ∀ es : Array Event, (∀ e ∈ es, NoE e) → DB (SF F) Fe w (w.alloc ob) es := fun es h => ⟨by simp, fun e he => (h e he).elim⟩
theorem dbF_row {g : Nat} (hg : g < w.heap.size) (hgF : ¬ F g) (hF : ∀ (ad : Addr) (wr : Bool), ad.block = g → Fe ⟨.cell ad, wr, false⟩) (cells : Array Value) : ∀ es : Array Event, (∀ e ∈ es, AcB g e) → DB (SF F) Fe w (w.setRow g cells) es := fun es h =>
  ⟨by simp, fun e he => by
    obtain ⟨ad, wr, rfl, hb⟩ := h e he
    exact ⟨evL_F (by rw [hb]; simpa using hg) (by rw [hb]; exact hgF), hF ad wr hb⟩⟩
theorem dbF_idle (w : World) : DB (SF F) Fe w w #[] := ⟨Nat.le_refl _, by simp⟩
end

/-- What is read by all, from the fan-in's beginning on: all but the channel and the group. -/
def QG (w : World) (F : Nat → Prop) (b : Nat) : Prop := b < w.heap.size + 3 ∧ b ≠ w.heap.size ∧ b ≠ w.heap.size + 2 ∧ ¬ F b
noncomputable def XG (w : World) (F : Nat → Prop) (cs : List Frame) (sts : List St4) (L : Nat) : Cx :=
  { P := Tryz.prog, ty := lk.tWg, Wg := w.heap.size + 2, Cm := w.heap.size, Q := QG w F, N := sts.length, vals := valsOf sts, Poss := PossG sts, Full := FullG sts, Res := ResN w.heap.size, NextM := NextMM (w.heap.size + 2) (QG w F) (wF w) cs,
    tot := sumTo sts.length (fun i => (valsOf sts i).length), L := L, Shun := SF F, B1 := w.heap.size, H0 := w.heap }
theorem wholeG (w : World) (F : Nat → Prop) (cs : List Frame) (sts : List St4) (L : Nat) (hN : sts.length ≤ 40) : Whole (XG w F cs sts L) := ⟨resN_ok, resN_put, fun l rem h => ⟨rem, h⟩, fun l rem h hn => ⟨rem, h, hn⟩, show sts.length < 2147483648 by omega⟩
/-- Drawn, behind the same step. -/
theorem Drawn.alloc {w w' : World} (h : Drawn w w') (o : Obj) : Drawn (w.alloc o) (w'.alloc o) := by obtain ⟨d, rfl⟩ := h; exact ⟨d, rfl⟩
theorem Drawn.setRow {w w' : World} (h : Drawn w w') (g : Nat) (cs : Array Value) : Drawn (w.setRow g cs) (w'.setRow g cs) := by
  obtain ⟨d, rfl⟩ := h
  exact ⟨d, rfl⟩
theorem Drawn.heap {w w' : World} (h : Drawn w w') : w'.heap = w.heap := by obtain ⟨d, rfl⟩ := h; rfl

theorem mkChan71 (w : World) : (Instr.makeChan 82 (.int .i64 0)).run Tryz.prog w = .ok (.chan (some w.heap.size)) (w.alloc (.chan 0 #[] false 0 0 false)) := by
  obtain ⟨i4, hi, _, _, hz2⟩ := info_parts info34
  exact run_makeChan Tryz.underlying82 hi .i64 0 (by decide) (by simp)
theorem mkChan71e (w : World) (es : Array Event) : (Instr.makeChan 82 (.int .i64 0)).events Tryz.prog w es = es := by
  obtain ⟨i4, hi, _, _, hz2⟩ := info_parts info34
  exact events_makeChan Tryz.underlying82 hi .i64 0 (by decide) (by simp) es

set_option maxRecDepth 100000 in
set_option maxHeartbeats 8000000 in
/-- ████ FROM THE MAKE OF THE CHANNEL TO THE FAN-IN ████ -/
theorem atFanG {w : World} {F : Nat → Prop} {cs : List Frame} {sts : List St4} {L : Nat} {A : Option Addr} {bst capS : Nat} (hFb : ∀ b, F b → b < w.heap.size) (hN : sts.length ≤ 40) (htot : (msAll sts).length ≤ 100000) (T : Array Value) (hT : T.size = 31) (t0 : T[0]? = some (.slice A sts.length capS))
    (hA0 : 0 < sts.length → A = some ⟨bst, 0, none⟩) (hst : ∀ (i : Nat) (x : St4), sts[i]? = some x → x.ok (fun b => b < w.heap.size ∧ ¬ F b) w) (hrow : ∀ (i : Nat) (x : St4), sts[i]? = some x → w.rangeAt bst (i * 2) x.cells) (hqs : 0 < sts.length → bst < w.heap.size ∧ ¬ F bst) :
    Goes Tryz.prog true AtRel (DB (SF F) (Shy2 w.heap.size (w.heap.size + 2))) (AtFan (XG w F cs sts L) w.heap.size) 45 (G ((base 16).at ⟨T, []⟩ [.code tail4M]) cs) w := by
  have qlt : ∀ {b : Nat}, b < w.heap.size ∧ ¬ F b → QG w F b := fun h => ⟨by omega, by omega, by omega, h.2⟩
  have rg : ∀ {b o : Nat} {l : List Value}, b < w.heap.size → w.rangeAt b o l → (wF w).rangeAt b o l := fun hb h => rangeAt_block h (old_wF w hb)
  obtain ⟨v0, v1, v2', v3, v4, v5, v6, v7, v8, v9, v10, v11, v12, v13, v14, v15, v16, v17, v18, v19, v20, v21, v22, v23, v24, v25, v26, v27, v28, v29, v30, rfl⟩ := array31 T hT
  simp only [List.getElem?_toArray, List.getElem?_cons_succ, List.getElem?_cons_zero, Option.some.injEq] at t0
  subst t0
  have hF : Drawn w w := .refl w
  have hL : tail4M = tail4M := rfl
  simp only [tail4M, bodyM, Tryz.f16, Option.getD_some]
  refine goes_bind0 (n := 40) (m := 5) atRel_refl (dbF_idle (F := F)) ?_
  u_c stepG_seq Drawn.rel hF
  u_reg Drawn.rel hF
  refine Goes.stop (fun w₁ h₁ => ?_)
  replace hF := hF.rel h₁
  clear h₁
  refine goes_mem (n := 39) rfl rfl (by decide) (fun w₁ h₁ => ?_)
  replace hF := hF.rel h₁
  clear h₁
  refine ⟨_, _, NoE, Yld.value (v := .chan (some w₁.heap.size)) (w' := w₁.alloc (.chan 0 #[] false 0 0 false)) (by simp [execOp, Act.eval, mkChan71]) (fun e he => by simp [execOp, Act.eval, mkChan71, mkChan71e] at he), dbF_new _, ?_⟩
  rw [hF.heap]
  replace hF := hF.alloc (.chan 0 #[] false 0 0 false)
  generalize hw : w₁.alloc _ = w₂ at hF ⊢
  clear hw w₁
  walk_nrm
  refine goes_mem (n := 38) rfl rfl (by decide) (fun w₁ h₁ => ?_)
  replace hF := hF.rel h₁
  clear h₁ w₂
  refine ⟨_, _, NoE, yld_alloc rfl (Tryz.zeroValue82 _) (evZero _), dbF_new _, ?_⟩
  have e1 : w₁.heap.size = w.heap.size + 1 := by rw [hF.heap]; simp
  rw [e1]
  replace hF := hF.alloc (.cells (Value.chan none).cells 82)
  generalize hw : w₁.alloc _ = w₂ at hF ⊢
  clear hw e1 w₁
  walk_nrm
  refine goes_mem (n := 37) rfl rfl (by decide) (fun w₁ h₁ => ?_)
  replace hF := hF.rel h₁
  clear h₁ w₂
  have hb : w₁.heap[w.heap.size + 1]? = some (.cells #[.chan none] 82 (0, 0)) := by rw [hF.heap]; exact box_w2F w
  refine ⟨_, _, _, yld_store (v := .chan (some w.heap.size)) rfl rfl rfl hb (Tryz.sizeOf82 _) (evSize _) rfl (by simp [Value.cells, Value.oneCell']), dbF_row (heap_lt hb) (fun h => by have := hFb _ h; omega) (fun ad wr had => ⟨by simp [blk, had], by simp [blk, had], fun m h => by cases h⟩) _, ?_⟩
  replace hF := hF.setRow (w.heap.size + 1) (Value.chan (some w.heap.size)).cells
  generalize hw : w₁.setRow _ _ = w₂ at hF ⊢
  clear hw hb w₁
  refine goes_bind0 (n := 10) (m := 27) atRel_refl (dbF_idle (F := F)) ?_
  walk_nrm
  u_c stepG_region_end Drawn.rel hF
  u_c stepG_seq Drawn.rel hF
  u_reg Drawn.rel hF
  refine Goes.stop (fun w₁ h₁ => ?_)
  replace hF := hF.rel h₁
  clear h₁ w₂
  refine goes_mem (n := 9) rfl rfl (by decide) (fun w₁ h₁ => ?_)
  replace hF := hF.rel h₁
  clear h₁
  refine ⟨_, _, NoE, yld_alloc rfl (Tryz.zeroValue91 _) (evZero _), dbF_new _, ?_⟩
  have e1 : w₁.heap.size = w.heap.size + 2 := by rw [hF.heap]; simp
  rw [e1]
  replace hF : Drawn (wF w) _ := hF.alloc (.cells (Value.agg #[.int .u64 0, .int .u32 0]).cells 91)
  generalize hw : w₁.alloc _ = w₂ at hF ⊢
  clear hw e1 w₁
  refine Goes.stop (fun w₁ h₁ => ?_)
  replace hF := hF.rel h₁
  clear h₁ w₂
  have hWF := size_wF w
  have hheap := hF.heap
  have hnF : ∀ b, w.heap.size ≤ b → ∀ l, blk l = some b → ¬ SF F l := fun b hb l hl ⟨b', h1, h2⟩ => by
    rw [hl] at h2
    cases h2
    have := hFb _ h1
    omega
  have hdead : ∀ b, ¬ (XG w F cs sts L).Nb b → b < w₁.heap.size ∧ w₁.heap[b]? = w.heap[b]? := fun b hb => by
    have hFb' : F b := by
      by_cases hh : F b
      · exact hh
      · refine absurd (fun l hl => ?_) hb
        rintro ⟨b', h1, h2⟩
        rw [hl] at h2
        cases h2
        exact hh h1
    have hl := hFb b hFb'
    refine ⟨by rw [hheap, hWF]; omega, ?_⟩
    rw [hheap]
    exact old_wF w hl
  refine ⟨Nat.le_refl _, (show w.heap.size ≤ w.heap.size + 2 by omega), ?_, ?_, fun b hb => ⟨by rw [hheap, hWF]; exact hb.1, hb.2.1, hb.2.2.1, fun l hl ⟨b', h1, h2⟩ => by
    rw [hl] at h2
    cases h2
    exact hb.2.2.2 h1⟩, rfl, ?_, fun b hb => hnF b hb, (show w.heap.size ≤ w.heap.size + 2 by omega), Nat.le_refl _, hdead, noO, fun b h => h.elim, ?_⟩
  · show w₁.heap[w.heap.size + 2]? = _
    rw [hheap]; exact wg_wF w
  · show w₁.heap[w.heap.size]? = _
    rw [hheap]; exact chan_wF w
  · intro b o hb ho
    have hb' : w.heap.size ≤ b := hb
    rw [hheap] at ho
    have hl := heap_lt ho
    rw [hWF] at hl
    obtain rfl | rfl | rfl : b = w.heap.size ∨ b = w.heap.size + 1 ∨ b = w.heap.size + 2 := by omega
    · rw [chan_wF] at ho; cases ho; exact trivial
    · rw [box_wF] at ho; cases ho; exact trivial
    · rw [wg_wF] at ho; cases ho; exact trivial
  show Sp Tryz.prog lk.tWg (w.heap.size + 2) w.heap.size (QG w F) sts.length (valsOf sts) (PossG sts) (FullG sts) (ResN w.heap.size) (NextMM (w.heap.size + 2) (QG w F) (wF w) cs) _ sts.length noO _ w₁
  have hFn : ∀ {b : Nat}, w.heap.size ≤ b → ¬ F b := fun hb h => by have := hFb _ h; omega
  have hc : QG w F (w.heap.size + 1) := ⟨by omega, by omega, by omega, hFn (by omega)⟩
  have hqm : ¬ QG w F w.heap.size := fun h => h.2.1 rfl
  have hqw : ¬ QG w F (w.heap.size + 2) := fun h => h.2.2.1 rfl
  have hq0 : ∀ b, QG w F b → b < (wF w).heap.size := fun b h => by rw [hWF]; exact h.1
  have hlt0 : ∀ {b o : Nat} {c : Value} {l : List Value}, w.rangeAt b o (c :: l) → b < w.heap.size := fun {b o c l} h => World.block_lt_of_cell? w _ (h 0 c rfl)
  obtain ⟨f, hf⟩ := spM (Wg := w.heap.size + 2) (Cm := w.heap.size) (bc := w.heap.size + 1) (Q := QG w F) (w0 := wF w) (cs := cs) (Poss := PossG sts) (Full := FullG sts) (Res := ResN w.heap.size) (tot := sumTo sts.length (fun i => (valsOf sts i).length)) (N := sts.length) (vals := valsOf sts)
    (sts := sts) (A := A) (bst := bst) (capS := capS) hA0 rfl (by omega) (fun i st h => by simp [valsOf, h])
    (fun i st h => by
      have hx := hst i st h
      exact ⟨hx.len, hx.n63, hx.a0, fun h0 => qlt (hx.q h0), fun j u hu => rg (hlt0 (hx.el j u hu)) (hx.el j u hu)⟩)
    (fun i st h => rg (hlt0 (hrow i st h)) (hrow i st h))
    (fun h => qlt (hqs h)) hc (box_wF w) (by rw [hWF]; omega) (by rw [hWF]; omega) hq0 hqm hqw (by omega)
    (fun Cw b9 w' h1 h2 h3 h4 hK => collectsAll (w0 := wF w) (possG htot) (fun lm h => by have := (fullG h).length_eq; omega) hc hqw (by omega) h1 hq0 _ w' hK) sts.length 0 (by omega)
  have hK : SameQ (QG w F) (wF w) w₁ ∧ WgLive lk.tWg (w.heap.size + 2) w₁ := by
    obtain ⟨d, rfl⟩ := hF
    exact ⟨⟨rfl, rfl, rfl, Nat.le_refl _, fun _ _ => rfl⟩, 0, 0, wg_wF w⟩
  have rl : ∀ {w' w₁ : World}, (SameQ (QG w F) (wF w) w' ∧ WgLive lk.tWg (w.heap.size + 2) w') → RO lk.tWg (w.heap.size + 2) (QG w F) noO w' w₁ → SameQ (QG w F) (wF w) w₁ ∧ WgLive lk.tWg (w.heap.size + 2) w₁ := fun h r => ⟨h.1.rl r fun _ h => .inr h, r.live h.2⟩
  refine SpM.sp (m := f + 20) (SpM.of_goes ?_)
  walk_nrm
  u_c stepG_region_end rl hK
  u_c stepG_seq rl hK
  u_c stepG_seq rl hK
  u_reg rl hK
  u_op rl hK
  u_op rl hK
  u_op rl hK
  u_c stepG_region_end rl hK
  u_c stepG_block rl hK
  u_c stepG_loop rl hK
  exact Goes.stop fun w₃ h₃ => hf noO _ w₃ ⟨_, rfl, rfl, rfl, rfl, rfl, rfl, rfl⟩ (rl hK h₃)
end Go.Proofs.YtmmjlngbiilagaaGreatDoor

/-
  MERGE's TAIL in goroutine 0's walk: the fan-in as one step.
-/
namespace Go.Proofs.YtmmjlngbiilagaaGreatDoor
open Go Go.Conc Go.RowKit Go.Conc.Lib Go.ConcR.Gen Go.Lib Go.Shelf Go.Sort
open Go.ConcR (KK wgBlock WgAt stA smA rd wr mk DC0)
open Go.ConcN (WgLive AtD4 WD sumTo upd)

theorem Fine.weaken {P : Program} {Post : Value → World → Prop} {F F2 : Nat → Prop} {a : Goroutine} {w : World} (hF : ∀ b, F b → F2 b) (h : Fine P Post F2 a w) : Fine P Post F a w := fun gs sl t q h0 hB =>
  h gs sl t q h0 ⟨hB.lv, ⟨hB.past.clean, fun i a h1 h2 => (hB.past.known i a h1 h2).imp id fun ⟨⟨b, h3, h4⟩, h5⟩ => ⟨⟨b, hF b h3, h4⟩, h5⟩, hB.past.over, hB.past.hears, hB.past.seen⟩, hB.gs⟩

/-- What Merge leaves behind. -/
structure MergeRes (F : Nat → Prop) (v : World) (ms : List M4) (F' : Nat → Prop) (z : Value) (v' : World) : Prop where
  more : ∀ b, F b → F' b
  old : ∀ b, b < v.heap.size → F' b → F b
  size : v.heap.size ≤ v'.heap.size
  same : ∀ b, b < v.heap.size → ¬ F b → v'.heap[b]? = v.heap[b]?
  os : v'.os = v.os
  output : v'.output = v.output
  val : ∃ lm : List M4, List.Perm lm ms ∧ ((lm = [] ∧ z = .tuple #[.slice none 0 0, .int .i64 0]) ∨ ∃ (gS cap : Nat) (d : Array Msg), z = .tuple #[.slice (some ⟨gS, 0, none⟩) lm.length cap, .int .i64 0] ∧ v.heap.size ≤ gS ∧ ¬ F' gS ∧ lm.length ≤ cap ∧
    PermIn 0 lm.length lm.toArray d ∧ SortedIn (ltOf cmpMsg) 0 lm.length d ∧ RowOf gS (cap * 4) d v')

section
variable {Gd : GB} {Post : Value → World → Prop} {F : Nat → Prop} {c : Frame} {cs : List Frame} {v : World}
theorem kd_tameO {B B' : Nat} {o : Obj} (h : TameO (cfgV Vh Tryz.prog Gd B) o) : TameO (cfgV Vh Tryz.prog Gd B') o := by cases o <;> exact h
/-- The emptied world behind the fan-in. -/
theorem pois_after {B : Nat} {w w' : World} {v₀ : Value} (hw : Pois (cfgV Vh Tryz.prog Gd B) F v w) (hn : ∀ b, B ≤ b → Gd b) (hGF : ∀ b, ¬ Fm Gd F b → Gd b) (hsz : w.heap.size ≤ w'.heap.size) (hold : ∀ b, b < w.heap.size → w'.heap[b]? = w.heap[b]?)
    (hkd : Kd (fun b => ¬ Fm Gd F b) w.heap.size w') (hv : ∀ b, v₀.ownBlock = some b → ∃ cur t, w'.heap[b]? = some (.cells cur t (0, 0)) ∧ ∀ x ∈ cur, ∀ K : Cfg, PFv K x) :
    Pois (cfgV Vh Tryz.prog Gd w'.heap.size) (fun b => F b ∨ (w.heap.size ≤ b ∧ v₀.ownBlock ≠ some b ∧ ∃ cc t fz, w'.heap[b]? = some (.cells cc t fz))) (emptiedD (fun b => F b ∨ (w.heap.size ≤ b ∧ v₀.ownBlock ≠ some b ∧ ∃ cc t fz, w'.heap[b]? = some (.cells cc t fz))) w') w' := by
  have hFb : ∀ b, F b → b < w.heap.size := fun b hb => by
    have h1 : b < B := hw.fb b hb
    have h2 : B ≤ v.heap.size := hw.sz
    have h3 := hw.size
    omega
  have hlt : ∀ b, (F b ∨ (w.heap.size ≤ b ∧ v₀.ownBlock ≠ some b ∧ ∃ cc t fz, w'.heap[b]? = some (.cells cc t fz))) → b < w'.heap.size := fun b hb => by
    rcases hb with h | ⟨_, _, _, _, _, h⟩
    · have := hFb b h; omega
    · exact heap_lt h
  generalize hF2 : (fun b => F b ∨ (w.heap.size ≤ b ∧ v₀.ownBlock ≠ some b ∧ ∃ cc t fz, w'.heap[b]? = some (.cells cc t fz))) = F2
  have hF2' : ∀ b, F2 b ↔ (F b ∨ (w.heap.size ≤ b ∧ v₀.ownBlock ≠ some b ∧ ∃ cc t fz, w'.heap[b]? = some (.cells cc t fz))) := fun b => by subst hF2; exact Iff.rfl
  have hodd : ∀ b o, ¬ F2 b → w'.heap[b]? = some o → oddO o → v.heap[b]? = some (deadV b 0) ∧ Gd.W0.heap[b]? = some o := fun b o h ho hx => by
    have h' : ¬ (F b ∨ (w.heap.size ≤ b ∧ v₀.ownBlock ≠ some b ∧ ∃ cc t fz, w'.heap[b]? = some (.cells cc t fz))) := fun x => h ((hF2' b).2 x)
    have hF : ¬ F b := fun x => h' (.inl x)
    rcases Nat.lt_or_ge b w.heap.size with hb | hb
    · rw [hold b hb] at ho
      by_cases hd : ∃ t, v.heap[b]? = some (deadV b t)
      · obtain ⟨t, e⟩ := hd
        obtain ⟨_, o', h1, _, h2⟩ := hw.odd b t e
        rw [ho] at h1
        cases h1
        exact ⟨e, h2⟩
      · have hs := hw.same b hF fun t e => hd ⟨t, e⟩
        rw [ho] at hs
        rcases hw.tame b o hs with h3 | ⟨_, t, h3⟩
        · cases o <;> first | exact hx.elim | exact h3.elim
        · rw [h3] at hs; exact absurd ⟨t, hs⟩ hd
    · have hk := hkd b o hb ho
      cases o <;> first | exact hx.elim | exact hk.elim
  refine ⟨by simp [emptiedD], rfl, rfl, fun b h hd => ?_, fun b t he => ?_, fun b h => ?_, fun a h => ?_, fun b o ho => ?_, fun b t fz h _ he => ?_, fun b _ _ => .inl rfl, fun b h => hlt b ((hF2' b).1 h), fun h => (by cases h), by simp [emptiedD, cfgV]⟩
  · have hd0 := hd 0
    rw [emptiedD_own h] at hd0 ⊢
    cases hb : w'.heap[b]? with
    | none => rfl
    | some o =>
      rw [hb] at hd0
      by_cases hx : oddO o
      · exact absurd (by rw [Option.map_some, deadO_odd hx]) hd0
      · rw [Option.map_some, deadO_id hx]
  · by_cases h : F2 b
    · rw [emptiedD_foreign h] at he
      obtain ⟨o', _, e2⟩ := Option.map_eq_some_iff.1 he
      obtain ⟨t', fz, e3⟩ := emptyO_is o'
      rw [e3] at e2
      cases e2
    · rw [emptiedD_own h] at he
      obtain ⟨o', e1, e2⟩ := Option.map_eq_some_iff.1 he
      have hx : oddO o' := by
        by_cases hx : oddO o'
        · exact hx
        · rw [deadO_id hx] at e2
          subst e2
          exact trivial
      exact ⟨h, o', e1, hx, (hodd b o' h e1 hx).2⟩
  · have hb := hlt b ((hF2' b).1 h)
    obtain ⟨t, fz, e⟩ := emptyO_is w'.heap[b]
    exact ⟨t, fz, by rw [emptiedD_foreign h, Array.getElem?_eq_getElem hb, Option.map_some, e]⟩
  · unfold World.frozen?
    rw [emptiedD_foreign h]
    cases w'.heap[a.block]? with
    | none => rfl
    | some o =>
      cases o with
      | cells c t fz => rfl
      | _ => simp [emptyO]
  · by_cases h : F2 b
    · rw [emptiedD_foreign h] at ho
      obtain ⟨o', _, rfl⟩ := Option.map_eq_some_iff.1 ho
      obtain ⟨t, fz, e⟩ := emptyO_is o'
      rw [e]
      exact .inl fun x hx => by simp at hx
    · rw [emptiedD_own h] at ho
      obtain ⟨o', e1, e2⟩ := Option.map_eq_some_iff.1 ho
      by_cases hx : oddO o'
      · exact .inr ⟨rfl, 0, by rw [← e2, deadO_odd hx]⟩
      rw [deadO_id hx] at e2
      subst e2
      replace ho := e1
      have h' : ¬ (F b ∨ (w.heap.size ≤ b ∧ v₀.ownBlock ≠ some b ∧ ∃ cc t fz, w'.heap[b]? = some (.cells cc t fz))) := fun x => h ((hF2' b).2 x)
      rcases Nat.lt_or_ge b w.heap.size with hb | hb
      · have hF : ¬ F b := fun x => h' (.inl x)
        have hnd : ∀ t, v.heap[b]? ≠ some (deadV b t) := fun t e => by
          obtain ⟨_, o2, h1, h2, _⟩ := hw.odd b t e
          rw [← hold b hb, ho] at h1
          cases h1
          exact hx h2
        rw [hold b hb, ← hw.same b hF hnd] at ho
        rcases hw.tame b o' ho with h3 | ⟨_, t, h3⟩
        · exact .inl (kd_tameO h3)
        · rw [h3] at hx
          exact absurd trivial hx
      · refine .inl ?_
        by_cases hg : v₀.ownBlock = some b
        · obtain ⟨cur, t, h1, h2⟩ := hv b hg
          rw [h1] at ho
          cases ho
          exact fun x hx => h2 x hx _
        · have hk := hkd b o' hb ho
          cases o' with
          | cells cc t fz => exact absurd (.inr ⟨hb, hg, cc, t, fz, ho⟩) h'
          | view => exact hk.elim
          | pending => exact hk.elim
          | map => exact hk.elim
          | loop => exact hk.elim
          | number a l => exact .inr (hGF _ hk)
          | _ => exact rfl
  · rcases (hF2' b).1 h with hf | ⟨_, _, cc, t', fz', e⟩
    · have hb := hFb b hf
      rename_i hG
      obtain ⟨t2, fz2, e2⟩ := hw.foreign b hf
      obtain ⟨cc, fz', e3⟩ := hw.row b t2 fz2 hf hG e2
      have e4 := (hold b hb).trans e3
      rw [emptiedD_foreign h, e4] at he
      simp only [Option.map_some, emptyO, Option.some.injEq, Obj.cells.injEq] at he
      exact ⟨cc, fz', by rw [e4, he.2.1]⟩
    · rw [emptiedD_foreign h, e] at he
      simp only [Option.map_some, emptyO, Option.some.injEq, Obj.cells.injEq] at he
      exact ⟨cc, fz', by rw [e, he.2.1]⟩
theorem after_same {B : Nat} {w w' : World} {F2 : Nat → Prop} {b : Nat} (hw : Pois (cfgV Vh Tryz.prog Gd B) F v w) (hF2 : ¬ F2 b) (hF : ¬ F b) (hh : w'.heap[b]? = w.heap[b]?) : (emptiedD F2 w').heap[b]? = v.heap[b]? := by
  rw [emptiedD_own hF2, hh]
  by_cases hd : ∃ t, v.heap[b]? = some (deadV b t)
  · obtain ⟨t, e⟩ := hd
    obtain ⟨_, o, h1, h2, _⟩ := hw.odd b t e
    rw [h1, e, Option.map_some, deadO_odd h2]
    rfl
  · have hs := hw.same b hF fun t e => hd ⟨t, e⟩
    cases ho : w.heap[b]? with
    | none => rw [hs, ho]; rfl
    | some o =>
      have hs' := hs.trans ho
      rw [hs', Option.map_some, deadO_id]
      intro hx
      rcases hw.tame b o hs' with h3 | ⟨_, t, h3⟩
      · cases o <;> first | exact hx.elim | exact h3.elim
      · rw [h3] at hs'
        exact hd ⟨t, hs'⟩
end
end Go.Proofs.YtmmjlngbiilagaaGreatDoor

/-
  MERGE's TAIL in goroutine 0's walk.
-/
namespace Go.Proofs.YtmmjlngbiilagaaGreatDoor
open Go Go.Conc Go.RowKit Go.Conc.Lib Go.ConcR.Gen Go.Lib Go.Shelf Go.Sort
open Go.ConcR (KK wgBlock WgAt stA smA rd wr mk DC0)
open Go.ConcN (WgLive AtD4 WD sumTo upd)

section
variable {Gd : GB} {Post : PostK} {F : Nat → Prop} {c : Frame} {cs : List Frame} {v : World}
theorem tail_ret {z₀ : Value} {u : World} (T : Array Value) (hT : T.size = 31) (t30 : T[30]? = some z₀)
    (h : FineV Vh Tryz.prog Gd Post F (G (c.finish (.tuple #[z₀, .int .i64 0])) cs) u) : FineV Vh Tryz.prog Gd Post F (G ((base 16).at ⟨T, []⟩ (.inRegion ops16 [2, 3] :: [.code tail16])) (c :: cs)) u := by
  intro B w hn hw hkp
  have hF : Drawn w w := .refl w
  obtain ⟨v0, v1, v2, v3, v4, v5, v6, v7, v8, v9, v10, v11, v12, v13, v14, v15, v16, v17, v18, v19, v20, v21, v22, v23, v24, v25, v26, v27, v28, v29, v30, rfl⟩ := array31 T hT
  simp only [List.getElem?_toArray, List.getElem?_cons_succ, List.getElem?_cons_zero, Option.some.injEq] at t30
  subst t30
  refine Fine.goes (D := DC0) (Stop := fun g w' => (∃ (a : Act) (todo : List Item), g = G { (base 16).at a todo with mode := .returning } (c :: cs) ∧ a.defers = [] ∧ a.tmps.getD 2 undef = v30 ∧ a.tmps.getD 3 undef = .int .i64 0) ∧ Drawn w w') (fun w w' es h => by obtain ⟨rfl, rfl⟩ := h; exact ⟨Nat.le_refl _, by simp⟩) (fun a' w' hs => ?_) (n := 20) ?_
  · obtain ⟨⟨a, todo, rfl, hd, h2, h3⟩, ⟨d, rfl⟩⟩ := hs
    refine Fine.step rfl fun w₁ h₁ => ?_
    have hr := resultsC_tmp2 (P := Tryz.prog) (fn := Tryz.f16) (by rfl) a.tmps w₁
    rw [h2, h3] at hr
    refine ⟨_, _, _, stepG_leave (b := base 16) rfl hd Tryz.func16 hr.1 hr.2, Nat.le_refl _, by simp, ?_⟩
    exact h B _ hn ((hw.rel ⟨d, rfl⟩).rel h₁) ((hkp.rel ⟨d, rfl⟩).rel h₁)
  simp only [ops16, tail16, tail14, tailM, bodyM, Tryz.f16, Option.getD_some]
  u_op Drawn.rel hF
  u_op Drawn.rel hF
  u_c stepG_region_end Drawn.rel hF
  u_c stepG_ret' Drawn.rel hF
  refine Goes.stop (fun w₁ h₁ => ?_)
  replace hF := hF.rel h₁
  exact ⟨⟨_, _, rfl, rfl, rfl, rfl⟩, hF⟩
/-- ████ MERGE's TAIL ████ -/
theorem fineV_tail {sts : List St4} {A : Option Addr} {bst capS : Nat} (hGF : ∀ b, ¬ Fm Gd F b → Gd b) (hN : sts.length ≤ 40) (htot : (msAll sts).length ≤ 100000) (T : Array Value) (hT : T.size = 31) (t0 : T[0]? = some (.slice A sts.length capS))
    (hA0 : 0 < sts.length → A = some ⟨bst, 0, none⟩) (hst : ∀ (i : Nat) (x : St4), sts[i]? = some x → x.ok (fun b => b < v.heap.size) v) (hrow : ∀ (i : Nat) (x : St4), sts[i]? = some x → v.rangeAt bst (i * 2) x.cells)
    (hK : ∀ F' z v', PFg Gd z → MergeRes F v (msAll sts) F' z v' → FineV Vh Tryz.prog Gd Post F' (G (c.finish z) cs) v') :
    FineV Vh Tryz.prog Gd Post F (G ((base 16).at ⟨T, []⟩ [.code tail4M]) (c :: cs)) v := by
  intro B w hn hw hkp
  have hsz := hw.size
  have hFb : ∀ b, F b → b < w.heap.size := fun b hb => by
    have h1 : b < B := hw.fb b hb
    have h2 : B ≤ v.heap.size := hw.sz
    omega
  have hBw : B ≤ w.heap.size := by
    have h2 : B ≤ v.heap.size := hw.sz
    omega
  have nF : ∀ {b o : Nat} {x : Value} {l : List Value}, v.rangeAt b o (x :: l) → b < w.heap.size ∧ ¬ F b := fun {b o x l} h => by
    have h0 := h 0 x rfl
    refine ⟨hsz ▸ World.block_lt_of_cell? v _ h0, fun hF => ?_⟩
    obtain ⟨t, fz, e⟩ := hw.foreign b hF
    simp [World.cell?, e] at h0
  have tr : ∀ {b o : Nat} {l : List Value}, v.rangeAt b o l → w.rangeAt b o l := fun {b o l} h j x hx => (hw.cell (h j x hx)).1
  refine Fine.fan (fun L => XG w (Fm Gd F) (c :: cs) sts L) (fun L => ⟨rfl, rfl, rfl⟩) (fun L => wholeG w (Fm Gd F) (c :: cs) sts L hN) (D := fun _ => DB (SF (Fm Gd F)) (Shy2 w.heap.size (w.heap.size + 2))) (n := fun _ => 45) (fun L w w' es h => h)
    (fun L => atFanG (fun b hb => hFb b hb.1) hN htot T hT t0 hA0 (fun i x hx => ?_) (fun i x hx => tr (hrow i x hx)) (fun h0 => ?_)) ?_
  · have h := hst i x hx
    refine ⟨h.len, h.n63, h.a0, fun h0 => ?_, fun j y hy => tr (h.el j y hy)⟩
    obtain ⟨y, hy⟩ : ∃ y, x.ms[0]? = some y := ⟨_, List.getElem?_eq_getElem (by rw [h.len]; exact h0)⟩
    exact ⟨(nF (h.el 0 y hy)).1, fun hf => (nF (h.el 0 y hy)).2 hf.1⟩
  · obtain ⟨y, hy⟩ : ∃ y, sts[0]? = some y := ⟨_, List.getElem?_eq_getElem h0⟩
    exact ⟨(nF (hrow 0 y hy)).1, fun hf => (nF (hrow 0 y hy)).2 hf.1⟩
  · rintro L v₀ a' w' l ⟨⟨hS, hL⟩, T', rfl, hT', t30⟩ hfull ⟨lm, rfl, hres⟩ hkd hdead
    have hperm := fullG hfull
    have hsz' : w.heap.size + 3 ≤ w'.heap.size := by
      have := hS.size
      rwa [size_wF] at this
    have nb : ∀ {b}, Fm Gd F b → ¬ (XG w (Fm Gd F) (c :: cs) sts L).Nb b := fun {b} hb h => h (.obj b) rfl ⟨b, hb, rfl⟩
    have hold : ∀ b, b < w.heap.size → w'.heap[b]? = w.heap[b]? := fun b hb => by
      by_cases hF : Fm Gd F b
      · exact hdead b (nb hF)
      · exact (hS.block b ⟨by omega, by omega, by omega, hF⟩).trans (old_wF w hb)
    have hkd' : Kd (fun b => ¬ Fm Gd F b) w.heap.size w' := fun b o hb ho => by
      have := hkd b o hb ho
      cases o with
      | number a l => exact fun hF => nb hF this
      | _ => exact this
    have hrowv : ∀ b, v₀.ownBlock = some b → ∃ cur t, w'.heap[b]? = some (.cells cur t (0, 0)) ∧ ∀ x ∈ cur, ∀ K : Cfg, PFv K x := fun b hb => by
      rcases hres with ⟨_, rfl⟩ | ⟨gS, cap, len, d, rfl, _, _, _, _, _, cur, h1, _, h2, _⟩
      · cases hb
      · simp only [Value.ownBlock, Option.some.injEq] at hb
        subst hb
        exact ⟨cur, _, h1, h2⟩
    have hp := pois_after (v₀ := v₀) hw hn hGF (by omega) hold hkd' hrowv
    have hWg : ∃ cc fz, w'.heap[w.heap.size + 2]? = some (.cells cc 91 fz) := by
      obtain ⟨st, sm, h⟩ := hL
      have h' : w'.heap[w.heap.size + 2]? = some (wgBlock lk.tWg st sm) := h
      exact ⟨_, _, h'⟩
    have hWn : v₀.ownBlock ≠ some (w.heap.size + 2) := fun e => by
      rcases hres with ⟨_, rfl⟩ | ⟨gS, cap, len, d, rfl, _, _, _, _, _, cur, h1, _⟩
      · cases e
      · simp only [Value.ownBlock, Option.some.injEq] at e
        subst e
        obtain ⟨cc, fz, h⟩ := hWg
        rw [h1] at h
        cases h
    generalize hF2 : (fun b => F b ∨ (w.heap.size ≤ b ∧ v₀.ownBlock ≠ some b ∧ ∃ cc t fz, w'.heap[b]? = some (.cells cc t fz))) = F2 at hp
    have hF2' : ∀ b, F2 b ↔ (F b ∨ (w.heap.size ≤ b ∧ v₀.ownBlock ≠ some b ∧ ∃ cc t fz, w'.heap[b]? = some (.cells cc t fz))) := fun b => by subst hF2; exact Iff.rfl
    refine Fine.weaken (F2 := Fm Gd F2) (fun b hb => hb.elim (fun h => ⟨(hF2' b).2 (.inl h.1), h.2⟩) fun e => ⟨(hF2' b).2 (.inr ?_), fun har => ?_⟩) ?_
    rotate_left
    · subst e
      have h1 := hFb _ (hkp.arF _ har)
      exact absurd h1 (by show ¬ w.heap.size + 2 < w.heap.size; omega)
    rotate_right
    · subst e
      obtain ⟨cc, fz, h⟩ := hWg
      exact ⟨(show w.heap.size ≤ w.heap.size + 2 by omega), hWn, cc, _, fz, h⟩
    have hpz : PFg Gd (.tuple #[v₀, .int .i64 0]) := by
      refine .inr (.tuple fun x hx => ?_)
      simp only [List.mem_toArray, List.mem_cons, List.not_mem_nil, or_false] at hx
      rcases hx with rfl | rfl
      · rcases hres with ⟨_, rfl⟩ | ⟨gS, cap, len, d, rfl, hg, _⟩
        · exact .nils _ _
        · exact .slice _ _ (hn _ (by show B ≤ gS; have : w.heap.size ≤ gS := hg; omega))
      · exact .int _ _
    refine tail_ret T' hT' t30 (hK F2 _ (emptiedD F2 w') hpz ⟨fun b hb => (hF2' b).2 (.inl hb), fun b hb h => ?_, ?_, fun b hb hF => ?_, ?_, ?_, lm, hperm, ?_⟩) w'.heap.size w' (fun b hb => hn b (by omega)) hp (hkp.kept hS.tape (fun b hb => (hF2' b).2 (.inl hb)) fun b hb => hold b (hFb b hb))
    · rcases (hF2' b).1 h with h | ⟨h, _⟩
      · exact h
      · omega
    · simp only [emptiedD, Array.size_mapIdx]; omega
    · have : ¬ F2 b := fun h => ((hF2' b).1 h).elim hF fun h => by omega
      exact after_same hw this hF (hold b (by omega))
    · exact hS.os.trans hw.os.symm
    · exact hS.output.trans hw.output.symm
    · rcases hres with ⟨h1, rfl⟩ | ⟨gS, cap, len, d, rfl, hg, hc, rfl, h1, h2, h3⟩
      · exact .inl ⟨h1, rfl⟩
      · have hgF : ¬ F2 gS := fun h => ((hF2' gS).1 h).elim (fun h => by have := hFb _ h; have : w.heap.size ≤ gS := hg; omega) fun h => h.2.1 rfl
        exact .inr ⟨gS, cap, d, rfl, by have : w.heap.size ≤ gS := hg; omega, hgF, hc, h1, h2, h3.heap (by obtain ⟨cur, hb, _⟩ := h3; exact emptiedD_cells hgF hb)⟩
end
end Go.Proofs.YtmmjlngbiilagaaGreatDoor

/-
  GOROUTINE 0's WALK: operations that are no matter of the static check: each by what it does in every true world that goes with the emptied one.
-/
namespace Go.Proofs.YtmmjlngbiilagaaGreatDoor
open Go Go.Conc

section
variable {V P : Program} {Gd : GB} {F : Nat → Prop} {v : World} {fn : FuncId} {Q : QV} {a : Act} {ops : Array Oper} {i : Nat} {rest : List Nat} {o : Oper}

/-- What is asked of an operation that is shown by hand. -/
def DoesV (V P : Program) (Gd : GB) (F : Nat → Prop) (o : Oper) (a : Act) (v : World) (x : Value) (v' : World) : Prop :=
  ∀ B w, (∀ b, B ≤ b → Gd b) → Pois (cfgV V P Gd B) F v w → ∃ w' es, (execOp a.eval o).runT P w #[] = (.ok (.value x) w', es) ∧
    (∀ e ∈ es, (∃ f, e.loc = .mark (.extern f)) ∨ EvT (cfgV V P Gd B) F w'.heap.size e) ∧ w.heap.size ≤ w'.heap.size ∧ Pois (cfgV V P Gd B) F v' w' ∧ w'.tape = w.tape ∧ ∀ b, F b → w'.heap[b]? = w.heap[b]?
theorem opsV_does {x : Value} {v' : World} (ho : ops[i]? = some o) (hw : Region.wanted o (yielded ops a.tmps) = true) (hd : DoesV V P Gd F o a v x v') (hx : ∀ B, (∀ b, B ≤ b → Gd b) → B ≤ v.heap.size → PFg Gd x)
    (hnext : OpsV V P Gd fn ops rest Q F (a.put o.dst x) v') : OpsV V P Gd fn ops (i :: rest) Q F a v := by
  intro Post b k cs hb hk ha hc B w hn hpw hkp
  have hne : b.kind ≠ .early := by rw [hk]; simp
  refine Fine.step rfl fun w₁ h₁ => ?_
  obtain ⟨w', es, hr, he, hs, hp, ht, hkk⟩ := hd B w₁ hn (hpw.rel h₁)
  have e11 : (execOp a.eval o).run P w₁ = .ok (.value x) w' := by have := congrArg Prod.fst hr; rw [Sem.runT_eq] at this; exact this
  have e12 : (execOp a.eval o).events P w₁ #[] = es := by have := congrArg Prod.snd hr; rw [Sem.runT_eq] at this; exact this
  refine ⟨_, w', _, stepG_value ho hw hne e11, hs, fun e h => ?_, hnext Post b k cs hb hk (pf_put ha (hx B hn hpw.sz)) hc B w' hn hp ((hkp.rel h₁).kept ht (fun _ h => h) hkk)⟩
  have h3 := mem_listed h
  rw [e12] at h3
  rcases he e h3 with ⟨f, hf⟩ | h4
  · exact absurd hf (seen_extern h f)
  · exact evL_sub SF_fm <| evT_evL h4 (seen_extern h)
theorem op1V_does {K : Act → World → Prop} {x : Value} {v' : World} (ho : ops[i]? = some o) (hw : Region.wanted o (yielded ops a.tmps) = true) (hd : DoesV V P Gd F o a v x v') (hx : ∀ B, (∀ b, B ≤ b → Gd b) → B ≤ v.heap.size → PFg Gd x)
    (hnext : K (a.put o.dst x) v') : Op1V V P Gd fn ops i K F a v := fun _ _ hK => opsV_does ho hw hd hx (hK _ _ hnext)
/-- It looks at no memory. -/
theorem doesV_pure {x : Value} {es : Array Event} (h : ∀ w, (execOp a.eval o).runT P w #[] = (.ok (.value x) w, es)) (hes : ∀ e ∈ es, ∃ f, e.loc = .mark (.extern f)) : DoesV V P Gd F o a v x v :=
  fun B w hn hp => ⟨w, es, h w, fun e he => .inl (hes e he), Nat.le_refl _, hp, rfl, fun _ _ => rfl⟩
/-- It reads cells. -/
theorem doesV_read {x : Value} (h : ∀ w, (∀ p y, v.cell? p = some y → w.cell? p = some y ∧ ¬ F p.block ∧ p.block < w.heap.size) → ∃ es, (execOp a.eval o).runT P w #[] = (.ok (.value x) w, es) ∧
    ∀ e ∈ es, (∃ f, e.loc = .mark (.extern f)) ∨ ∃ p, e.loc = .cell p ∧ e.sync = false ∧ p.block < w.heap.size ∧ ¬ F p.block) : DoesV V P Gd F o a v x v := fun B w hn hp => by
  obtain ⟨es, h1, h2⟩ := h w fun p y hy => by
    obtain ⟨h1, h2, h3⟩ := hp.cell hy
    exact ⟨h1, h2, by rw [← hp.size]; exact h3⟩
  refine ⟨w, es, h1, fun e he => (h2 e he).imp id fun ⟨p, e1, e2, e3, e4⟩ => ?_, Nat.le_refl _, hp, rfl, fun _ _ => rfl⟩
  unfold EvT
  rw [e1]
  exact ⟨e3, e4, e2⟩
/-- It lays a block. -/
theorem doesV_new {x : Value} {ob : Obj} (ht : ∀ B, (∀ b, B ≤ b → Gd b) → TameO (cfgV V P Gd B) ob) (h : ∀ w : World, w.heap.size = v.heap.size → ∃ es, (execOp a.eval o).runT P w #[] = (.ok (.value x) (w.alloc ob), es) ∧
    ∀ e ∈ es, ∃ f, e.loc = .mark (.extern f)) : DoesV V P Gd F o a v x (v.alloc ob) := fun B w hn hp => by
  obtain ⟨es, h1, h2⟩ := h w hp.size.symm
  refine ⟨w.alloc ob, es, h1, fun e he => .inl (h2 e he), by simp, ?_, rfl, fun b hb => Go.RowKit.Below.heap_alloc w ob b (by
    have h1 : b < B := hp.fb _ hb
    have h2 : B ≤ v.heap.size := hp.sz
    have h3 := hp.size
    omega)⟩
  exact hp.push (fun hF => by
    have h1 : v.heap.size < B := hp.fb _ hF
    have h2 : B ≤ v.heap.size := hp.sz
    omega) (ht B hn)
/-- It reads a cell and sets another. -/
theorem doesV_set {x z : Value} {p : Addr} (hz : PFg Gd z) {old : Value} (hold : v.cell? p = some old) (h : ∀ w, (∀ p y, v.cell? p = some y → w.cell? p = some y ∧ ¬ F p.block ∧ p.block < w.heap.size) → (∀ p, w.frozen? p = v.frozen? p) → ∃ es, (execOp a.eval o).runT P w #[] = (.ok (.value x) (w.setCell p z), es) ∧
    ∀ e ∈ es, (∃ f, e.loc = .mark (.extern f)) ∨ ∃ p, e.loc = .cell p ∧ e.sync = false ∧ p.block < w.heap.size ∧ ¬ F p.block) : DoesV V P Gd F o a v x (v.setCell p z) := fun B w hn hp => by
  obtain ⟨es, h1, h2⟩ := h w (fun p y hy => by
    obtain ⟨h1, h2, h3⟩ := hp.cell hy
    exact ⟨h1, h2, by rw [← hp.size]; exact h3⟩) fun p => hp.frz p
  refine ⟨w.setCell p z, es, h1, fun e he => (h2 e he).imp id fun ⟨p, e1, e2, e3, e4⟩ => ?_, by simp, hp.setCell (hp.cell hold).2.1 hz, rfl, fun b hb => Go.RowKit.Below.heap_setCell w p z b (fun e => (hp.cell hold).2.1 (e ▸ hb))⟩
  unfold EvT
  rw [e1]
  exact ⟨by simpa using e3, e4, e2⟩

/-! ### an operation by the static check, what follows behind a variable -/
theorem opsV_op_k (ho : ops[i]? = some o) (hw : Region.wanted o (yielded ops a.tmps) = true) (hok : ∀ B, (∀ b, B ≤ b → Gd b) → OpOk (cfgV V P Gd B) o)
    (h : ∀ τ p, ∀ K : Act → World → Prop, (∀ a' u, OpsV V P Gd fn ops rest Q F a' u → K a' (tp u τ p)) → uponK o a K ((execOp a.eval o).run V (tp v τ p))) : OpsV V P Gd fn ops (i :: rest) Q F a v :=
  opsV_op ho hw hok fun τ p => h τ p _ fun _ _ h => opsV_tp h
theorem tpC (v : World) (τ : Nat → Question → Nat) (p : Nat) (a : Addr) : (tp v τ p).cell? a = v.cell? a := rfl
theorem tpF (v : World) (τ : Nat → Question → Nat) (p : Nat) (a : Addr) : (tp v τ p).frozen? a = v.frozen? a := rfl
theorem tpA (v : World) (τ : Nat → Question → Nat) (p : Nat) (o : Obj) : (tp v τ p).alloc o = tp (v.alloc o) τ p := rfl
theorem tpS (v : World) (τ : Nat → Question → Nat) (p : Nat) (a : Addr) (x : Value) : (tp v τ p).setCell a x = tp (v.setCell a x) τ p := rfl
theorem tpH (v : World) (τ : Nat → Question → Nat) (p : Nat) : (tp v τ p).heap = v.heap := rfl
theorem thenV_normal {K : (Nat → Prop) → Act → World → Prop} : ThenV K Q F .normal a v = K F a v := rfl
theorem thenV_exit {K : (Nat → Prop) → Act → World → Prop} {id : Nat} : ThenV K Q F (.exit id) a v = Q F (.exit id) a v := rfl
theorem thenV_ret {K : (Nat → Prop) → Act → World → Prop} : ThenV K Q F .ret a v = Q F .ret a v := rfl
theorem inBV_normal {id : Nat} : InBlockV id Q F .normal a v = Q F .normal a v := rfl
theorem inBV_exit {id id' : Nat} : InBlockV id Q F (.exit id') a v = if id' = id then Q F .normal a v else Q F (.exit id') a v := rfl
theorem inBV_ret {id : Nat} : InBlockV id Q F .ret a v = Q F .ret a v := rfl
/-- A loop round by round: after each the next, N of them left. -/
theorem wpV_cond_k {c : Operand} {x y : Code} (t : Bool) (hc : a.eval c = .bool t) (h1 : t = true → WpV V P Gd fn x Q F a v) (h0 : t = false → WpV V P Gd fn y Q F a v) : WpV V P Gd fn (.cond c x y) Q F a v :=
  wpV_cond hc (by cases t; exact h0 rfl; exact h1 rfl)
theorem wpV_cond_t {c : Operand} {x y : Code} (hc : a.eval c = .bool true) (h : WpV V P Gd fn x Q F a v) : WpV V P Gd fn (.cond c x y) Q F a v := wpV_cond hc h
theorem wpV_cond_f {c : Operand} {x y : Code} (hc : a.eval c = .bool false) (h : WpV V P Gd fn y Q F a v) : WpV V P Gd fn (.cond c x y) Q F a v := wpV_cond hc h
/-- A CUT. -/
theorem wpV_seq_mid {x y : Code} (M : (Nat → Prop) → Act → World → Prop) (hx : WpV V P Gd fn x (ThenV M Q) F a v) (hy : ∀ F' a' v', M F' a' v' → WpV V P Gd fn y Q F' a' v') : WpV V P Gd fn (.seq x y) Q F a v :=
  wpV_seq (wpV_mono hx fun F' e a' v' q => by cases e <;> first | exact hy _ _ _ q | exact q)
/-- A loop round by round. -/
def RoundsV (V P : Program) (Gd : GB) (fn : FuncId) (c : Code) (Q : QV) : Nat → (Nat → Prop) → Act → World → Prop
  | 0, _, _, _ => False
  | n + 1, F, a, v => WpV V P Gd fn c (ThenV (RoundsV V P Gd fn c Q n) Q) F a v
theorem wpV_loop_rounds {c : Code} (n : Nat) (h : RoundsV V P Gd fn c Q n F a v) : WpV V P Gd fn (.loop c) Q F a v := by
  intro Post b k cs hb hk hp hc
  refine FineV.still rfl (fun _ => stepG_loop) ?_
  induction n generalizing F a v with
  | zero => exact h.elim
  | succ n ih =>
    refine h Post b (.inLoop c :: k) cs hb hk hp fun F' e a' v' hp' q => ?_
    cases e with
    | normal => exact FineV.still rfl (fun _ => stepG_inLoop) (ih q hp')
    | exit id => exact (hc _ _ _ _ hp' q).push rfl (by simp)
    | ret => exact (hc _ _ _ _ hp' q).push (x := .inLoop c) rfl (by simp)
    | goto l => exact hc _ _ _ _ hp' q
    | panic ch => exact hc _ _ _ _ hp' q
    | outgrown => exact hc _ _ _ _ hp' q

/-! ### by an entry's law -/
def extB : Event → Bool
  | ⟨.mark (.extern _), _, _⟩ => true
  | _ => false
theorem extB_spec {es : Array Event} (h : es.toList.all extB = true) : ∀ e ∈ es, ∃ f, e.loc = .mark (.extern f) := fun e he => by
  have h1 := List.all_eq_true.1 h e (by simpa using he)
  unfold extB at h1
  split at h1
  · exact ⟨_, rfl⟩
  · cases h1
theorem exec_call {f : FuncId} {args : Array Operand} {ats : Array TypeId} {vals : Array Value} (hop : o.op = .call { callee := .value (.func f), args, argTypes := ats }) (hv : args.map a.eval = vals) : execOp a.eval o = callFunc f vals := by
  subst hv
  unfold execOp
  simp only [hop]
  show (resolve _ _ _).bind _ = _
  unfold resolve
  show Sem.bind (Deferred.ofValue (.func (.func f) #[] #[]) _) _ = _
  unfold Deferred.ofValue
  show invoke (.fn (.func f) #[]) (#[] ++ args.map a.eval) = _
  unfold invoke
  show callFunc f ((#[] ++ args.map a.eval) ++ #[]) = _
  simp
theorem exec_inv {r : Operand} {nm : String} {args : Array Operand} {ats : Array TypeId} {rv : Value} {vals : Array Value} (hop : o.op = .call { callee := .invoke r nm, args, argTypes := ats }) (hr : a.eval r = rv) (hv : args.map a.eval = vals) : execOp a.eval o = callMethod rv nm vals := by
  subst hv hr
  unfold execOp
  simp only [hop]
  show (resolve _ _ _).bind _ = _
  unfold resolve
  show invoke (.fn (.method nm) #[]) (#[a.eval r] ++ args.map a.eval) = _
  generalize args.map a.eval = m
  have e0 : (#[a.eval r] ++ m)[0]? = some (a.eval r) := by simp [Array.getElem?_append]
  have e1 : (#[a.eval r] ++ m).extract 1 (#[a.eval r] ++ m).size = m := by
    obtain ⟨l⟩ := m
    simp
  unfold invoke
  simp only [e0, e1]
theorem exec_bin {op : BinOp} {t t' : TypeId} {x y : Operand} {xv yv : Value} (hop : o.op = .binOp op t x y t') (hx : a.eval x = xv) (hy : a.eval y = yv) : execOp a.eval o = (do eqGuard op t x y xv yv; binOp op t xv yv : Sem Value).bind fun z => .pure (.value z) := by
  subst hx hy
  unfold execOp
  simp only [hop]
  rfl
theorem opsV_pureS {s : Sem Next} {x : Value} {es : Array Event} (ho : ops[i]? = some o) (hw : Region.wanted o (yielded ops a.tmps) = true) (he : execOp a.eval o = s) (h : ∀ w, s.runT P w #[] = (.ok (.value x) w, es)) (hes : es.toList.all extB = true) (hx : PFg Gd x)
    (hnext : OpsV V P Gd fn ops rest Q F (a.put o.dst x) v) : OpsV V P Gd fn ops (i :: rest) Q F a v :=
  opsV_does ho hw (doesV_pure (x := x) (es := es) (fun w => by rw [he]; exact h w) (extB_spec hes)) (fun _ _ _ => hx) hnext
theorem opsV_newS {s : Sem Next} {x : Value} {ob : Obj} {es : Array Event} (ho : ops[i]? = some o) (hw : Region.wanted o (yielded ops a.tmps) = true) (he : execOp a.eval o = s) (h : ∀ w : World, w.heap.size = v.heap.size → s.runT P w #[] = (.ok (.value x) (w.alloc ob), es)) (hes : es.toList.all extB = true)
    (ht : ∀ B, (∀ b, B ≤ b → Gd b) → TameO (cfgV V P Gd B) ob) (hx : ∀ B, (∀ b, B ≤ b → Gd b) → B ≤ v.heap.size → PFg Gd x) (hnext : OpsV V P Gd fn ops rest Q F (a.put o.dst x) (v.alloc ob)) : OpsV V P Gd fn ops (i :: rest) Q F a v :=
  opsV_does ho hw (doesV_new ht fun w hw' => ⟨es, by rw [he]; exact h w hw', extB_spec hes⟩) hx hnext
theorem opsV_readS {s : Sem Next} {x y : Value} {p : Addr} {es : Array Event} (ho : ops[i]? = some o) (hw : Region.wanted o (yielded ops a.tmps) = true) (he : execOp a.eval o = s) (hc : v.cell? p = some y) (h : ∀ w : World, w.cell? p = some y → s.runT P w #[] = (.ok (.value x) w, es.push ⟨.cell p, false, false⟩)) (hes : es.toList.all extB = true)
    (hx : PFg Gd x) (hnext : OpsV V P Gd fn ops rest Q F (a.put o.dst x) v) : OpsV V P Gd fn ops (i :: rest) Q F a v :=
  opsV_does ho hw (doesV_read fun w hr => by
    obtain ⟨h1, h2, h3⟩ := hr p y hc
    refine ⟨_, by rw [he]; exact h w h1, fun e hee => ?_⟩
    rcases Array.mem_push.1 hee with h4 | rfl
    · exact .inl (extB_spec hes e h4)
    · exact .inr ⟨p, rfl, rfl, h3, h2⟩) (fun _ _ _ => hx) hnext
theorem opsV_setS {s : Sem Next} {x z y old : Value} {p q : Addr} {es : Array Event} (ho : ops[i]? = some o) (hw : Region.wanted o (yielded ops a.tmps) = true) (he : execOp a.eval o = s) (hq : v.cell? q = some y) (hp : v.cell? p = some old) (hf : v.frozen? p = false)
    (h : ∀ w : World, w.cell? q = some y → w.cell? p = some old → w.frozen? p = false → s.runT P w #[] = (.ok (.value x) (w.setCell p z), (es.push ⟨.cell q, false, false⟩).push ⟨.cell p, true, false⟩)) (hes : es.toList.all extB = true)
    (hz : PFg Gd z) (hx : PFg Gd x) (hnext : OpsV V P Gd fn ops rest Q F (a.put o.dst x) (v.setCell p z)) : OpsV V P Gd fn ops (i :: rest) Q F a v :=
  opsV_does ho hw (doesV_set hz hp fun w hr hfz => by
    obtain ⟨h1, h2, h3⟩ := hr q y hq
    obtain ⟨h4, h5, h6⟩ := hr p old hp
    refine ⟨_, by rw [he]; exact h w h1 h4 ((hfz p).trans hf), fun e hee => ?_⟩
    rcases Array.mem_push.1 hee with hee | rfl
    · rcases Array.mem_push.1 hee with h7 | rfl
      · exact .inl (extB_spec hes e h7)
      · exact .inr ⟨q, rfl, rfl, h3, h2⟩
    · exact .inr ⟨p, rfl, rfl, h6, h5⟩) (fun _ _ _ => hx) hnext
/-- A call that is come to by an entry's law. -/
theorem opsV_enterS {s : Sem Next} {f : FuncId} {args : Array Value} {R : (Nat → Prop) → Value → World → Prop} (ho : ops[i]? = some o) (hw : Region.wanted o (yielded ops a.tmps) = true) (he : execOp a.eval o = s) (h : ∀ w, s.runT P w #[] = (.ok (.enter f args) w, #[])) (hargs : ∀ x ∈ args, PFg Gd x) (hcall : CallsV V P Gd f args F v R)
    (hnext : ∀ F' z v', R F' z v' → OpsV V P Gd fn ops rest Q F' (a.put o.dst z) v') : OpsV V P Gd fn ops (i :: rest) Q F a v :=
  opsV_enter ho hw (fun w => by
    have := h w
    rw [Sem.runT_eq] at this
    rw [he]
    exact ⟨congrArg Prod.fst this, congrArg Prod.snd this⟩) (fun _ => hargs) hcall hnext
end

section
variable {P : Program} {a : Act} {w : World}
/-- The call returns. -/
theorem stepG_endedT {f : FuncId} {fn : Func} {v : Value} {todo : List Item} (hf : P.funcs[f]? = some fn) (hin : P.inits.idxOf? f = none) (hd : a.defers = []) (hr : ResultsC P fn a.tmps v) :
    stepG P true (G { (base f).at a todo with mode := .returning } []) w = .ended (.done v) w #[] := by
  simp [G, stepG, unwind, doReturn, Frame.at, base, hd, hf, (hr w).1, (hr w).2, hin, seen, GStep.after]
end
/-- The call that the run is. -/
def TopV (V P : Program) (Gd : GB) (f : FuncId) (args : Array Value) (F : Nat → Prop) (v : World) (R : (Nat → Prop) → Value → World → Prop) : Prop :=
  ∀ Post : PostK, (∀ x ∈ args, PFg Gd x) → (∀ (F' : Nat → Prop) (z : Value) (v' : World) (B : Nat) (w' : World), R F' z v' → Pois (cfgV V P Gd B) F' v' w' → Kp Gd Post F' w' → Post.post z w') → FineV V P Gd Post F (G (Frame.enter P f args .normal) []) v
theorem topV_body {V P : Program} {Gd : GB} {F : Nat → Prop} {v : World} {f : FuncId} {fc : Func} {c : Code} {args : Array Value} {R : (Nat → Prop) → Value → World → Prop} (hf : P.funcs[f]? = some fc) (hin : P.inits.idxOf? f = none) (hb : fc.body = some c) (_hres : fc.results.all resB = true)
    (h : WpV V P Gd f c (fun F' e a' v' => (e = .normal ∨ e = .ret) ∧ a'.defers = [] ∧ ∃ z, ResultsC P fc a'.tmps z ∧ R F' z v') F { tmps := args ++ Array.replicate (fc.ntmps - args.size) undef, defers := [] } v) : TopV V P Gd f args F v R := by
  intro Post ha hK
  rw [enter_at _ hf hb]
  have hleave : ∀ (F' : Nat → Prop) (a' : Act) (v' : World) (todo : List Item), (a'.defers = [] ∧ ∃ z, ResultsC P fc a'.tmps z ∧ R F' z v') → FineV V P Gd Post F' (G { (base f).at a' todo with mode := .returning } []) v' := by
    rintro F' a' v' todo ⟨hd, z, hrs, hp⟩ B w _ hw hkp
    exact Fine.ends fun w₁ h₁ => ⟨rfl, z, #[], stepG_endedT hf hin hd hrs, by simp, hK F' z v' B w₁ hp (hw.rel h₁) (hkp.rel h₁)⟩
  refine h Post (base f) [] [] rfl rfl (fun x hx => ?_) fun F' e a' v' _ ⟨he, q⟩ => ?_
  · rcases Array.mem_append.1 hx with hx | hx
    · exact ha x hx
    · rw [(Array.mem_replicate.1 hx).2]
      exact PFv.undef (cfgV V P Gd 0)
  rcases he with rfl | rfl
  · exact FineV.still rfl (fun _ => stepG_end) (hleave F' a' v' [] q)
  · exact fun todo => hleave F' a' v' todo q
end Go.Proofs.YtmmjlngbiilagaaGreatDoor
