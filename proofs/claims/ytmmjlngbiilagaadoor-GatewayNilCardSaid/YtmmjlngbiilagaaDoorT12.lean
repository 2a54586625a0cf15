/-
  THE END: Merge returns the sorted messages; known finds them as the chapter's example says; the law returns true.
-/
import Derived.Test.YtmmjlngbiilagaaDoorT11

namespace Go.Proofs.YtmmjlngbiilagaaDoor
open Go Go.Conc Go.RowKit Go.Conc.Lib Go.ConcR.Gen Go.Lib
open Go.ConcR (KK wgBlock WgAt stA smA rd wr mk DC0)
open Go.ConcN (WgLive AtD4 WD sumTo upd)

def bankB : ByteArray := { data := #[66, 65, 78, 75, 66] }
def bankA : ByteArray := { data := #[66, 65, 78, 75, 65] }
def emptyS : ByteArray := { data := #[] }
/-- The example's messages. -/
def mB1 : M4 := ⟨0, bankB, 1, emptyS⟩
def mB2 : M4 := ⟨2, bankB, 2, emptyS⟩
def mA1 : M4 := ⟨2, bankA, 1, emptyS⟩
theorem isort1 : isort [mB1, mB2, mA1] = [mB1, mA1, mB2] := by kernel_rfl
theorem isort2 : isort [mB1, mA1, mB2] = [mB1, mA1, mB2] := by kernel_rfl
theorem isort3 : isort [mA1, mB1, mB2] = [mB1, mA1, mB2] := by kernel_rfl

noncomputable def bodyK : Code := Tryd.f12.body.getD .skip
noncomputable def ops1K : Array Oper := match bodyK with | .seq _ (.seq (.region _ ops _) _) => ops | _ => #[]
noncomputable def tail1K : Code := match bodyK with | .seq _ (.seq _ t) => t | _ => .skip
noncomputable def bodyG : Code := Tryd.f3.body.getD .skip
noncomputable def ops6G : Array Oper := match bodyG with | .seq _ (.seq _ (.seq _ (.seq _ (.seq _ (.seq _ (.seq (.region _ ops _) _)))))) => ops | _ => #[]
noncomputable def tail6G : Code := match bodyG with | .seq _ (.seq _ (.seq _ (.seq _ (.seq _ (.seq _ (.seq _ t)))))) => t | _ => .skip

/-- The callers beneath Merge. -/
noncomputable def cK (T1 : Array Value) : Frame := (base 12).at ⟨T1, []⟩ (.inRegion ops1K [8, 9, 10, 11, 12, 13] :: [.code tail1K])
noncomputable def cG (T2 : Array Value) : Frame := (base 3).at ⟨T2, []⟩ (.inRegion ops6G [47, 48, 49] :: [.code tail6G])

theorem array50 (T : Array Value) (h : T.size = 50) : ∃ v0 v1 v2 v3 v4 v5 v6 v7 v8 v9 v10 v11 v12 v13 v14 v15 v16 v17 v18 v19 v20 v21 v22 v23 v24 v25 v26 v27 v28 v29 v30 v31 v32 v33 v34 v35 v36 v37 v38 v39 v40 v41 v42 v43 v44 v45 v46 v47 v48 v49 : Value,
    T = #[v0, v1, v2, v3, v4, v5, v6, v7, v8, v9, v10, v11, v12, v13, v14, v15, v16, v17, v18, v19, v20, v21, v22, v23, v24, v25, v26, v27, v28, v29, v30, v31, v32, v33, v34, v35, v36, v37, v38, v39, v40, v41, v42, v43, v44, v45, v46, v47, v48, v49] := by
  obtain ⟨l⟩ := T
  simp only [List.size_toArray] at h
  rcases l with _ | ⟨v0, _ | ⟨v1, _ | ⟨v2, _ | ⟨v3, _ | ⟨v4, _ | ⟨v5, _ | ⟨v6, _ | ⟨v7, _ | ⟨v8, _ | ⟨v9, _ | ⟨v10, _ | ⟨v11, _ | ⟨v12, _ | ⟨v13, _ | ⟨v14, _ | ⟨v15, l⟩⟩⟩⟩⟩⟩⟩⟩⟩⟩⟩⟩⟩⟩⟩⟩ <;> try simp at h
  rcases l with _ | ⟨v16, _ | ⟨v17, _ | ⟨v18, _ | ⟨v19, _ | ⟨v20, _ | ⟨v21, _ | ⟨v22, _ | ⟨v23, _ | ⟨v24, _ | ⟨v25, _ | ⟨v26, _ | ⟨v27, _ | ⟨v28, _ | ⟨v29, _ | ⟨v30, _ | ⟨v31, l⟩⟩⟩⟩⟩⟩⟩⟩⟩⟩⟩⟩⟩⟩⟩⟩ <;> try simp at h
  rcases l with _ | ⟨v32, _ | ⟨v33, _ | ⟨v34, _ | ⟨v35, _ | ⟨v36, _ | ⟨v37, _ | ⟨v38, _ | ⟨v39, _ | ⟨v40, _ | ⟨v41, _ | ⟨v42, _ | ⟨v43, _ | ⟨v44, _ | ⟨v45, _ | ⟨v46, _ | ⟨v47, l⟩⟩⟩⟩⟩⟩⟩⟩⟩⟩⟩⟩⟩⟩⟩⟩ <;> try simp at h
  rcases l with _ | ⟨v48, _ | ⟨v49, _ | ⟨x, l⟩⟩⟩ <;> try simp at h
  exact ⟨v0, v1, v2, v3, v4, v5, v6, v7, v8, v9, v10, v11, v12, v13, v14, v15, v16, v17, v18, v19, v20, v21, v22, v23, v24, v25, v26, v27, v28, v29, v30, v31, v32, v33, v34, v35, v36, v37, v38, v39, v40, v41, v42, v43, v44, v45, v46, v47, v48, v49, rfl⟩


section
variable {P : Program} {main : Bool} {R : World → World → Prop} {D : World → World → Array Event → Prop} {St : Goroutine → World → Prop} {n : Nat} {a : Act} {cs : List Frame} {w : World}
/-- A function returns to its caller. -/
theorem goes_leaveC (T : Terms R D) {f : FuncId} {fn : Func} {v : Value} {todo : List Item} {b₀ : Frame} {a₀ : Act} {ops₀ : Array Oper} {i₀ : Nat} {rest₀ : List Nat} {k₀ : List Item} (hf : P.funcs[f]? = some fn) (hd : a.defers = []) (hr : ResultsC P fn a.tmps v)
    (h : Goes P main R D St n (G (b₀.at (a₀.put ((ops₀[i₀]?).bind (·.dst)) v) (.inRegion ops₀ rest₀ :: k₀)) cs) w) :
    Goes P main R D St (n + 1) (G { (base f).at a todo with mode := .returning } (b₀.at a₀ (.inRegion ops₀ (i₀ :: rest₀) :: k₀) :: cs)) w := by
  refine Goes.step rfl fun w₁ h₁ => ?_
  rw [stepG_leave (b := base f) rfl hd hf (hr w₁).1 (hr w₁).2, Frame.finish_at]
  exact ⟨T.idle _, Goes.rely T.trans h h₁⟩
end

section
variable {P : Program} {a : Act} {w : World}
theorem eval_put_same {s : Tmp} {v : Value} (h : s < a.tmps.size) : (a.put (some s) v).eval (.tmp s) = v := by simp [Act.put, Act.eval, h]
theorem eval_put_ne {s t : Tmp} {v : Value} (h : s ≠ t) : (a.put (some s) v).eval (.tmp t) = a.eval (.tmp t) := by
  simp only [Act.put, Act.eval, Array.getD_eq_getD_getElem?]
  rw [Array.getElem?_setIfInBounds_ne h]
theorem size_put {s : Option Tmp} {v : Value} : (a.put s v).tmps.size = a.tmps.size := by cases s <;> simp [Act.put]
/-- The call returns. -/
theorem stepG_ended {f : FuncId} {fn : Func} {v : Value} {todo : List Item} (hf : P.funcs[f]? = some fn) (hin : P.inits.idxOf? f = none) (hd : a.defers = []) (hr : ResultsC P fn a.tmps v) :
    stepG P true (G { (base f).at a todo with mode := .returning } []) w = .ended (.done v) w #[] := by
  simp [G, stepG, unwind, doReturn, Frame.at, base, hd, hf, (hr w).1, (hr w).2, hin, seen, GStep.after]
end

/-- What is held to the end: what was there when Merge began stands; the result's block. -/
structure HE (gS : Nat) (cur : Array Value) (w0 w : World) : Prop where
  heap : w.heap = w0.heap
  tape : w.tape = w0.tape
  os : w.os = w0.os
  output : w.output = w0.output
  blk : w0.heap[gS]? = some (.cells cur 34 (0, 0))
theorem HE.rel {gS : Nat} {cur : Array Value} {w0 w w₁ : World} (h : HE gS cur w0 w) (r : AtRel w w₁) : HE gS cur w0 w₁ := by obtain ⟨d, rfl⟩ := r; exact ⟨h.heap, h.tape, h.os, h.output, h.blk⟩

/-- What it may list to the end. -/
def DE2 (Wg B : Nat) (w w' : World) (es : Array Event) : Prop := ∀ e ∈ es, Go.Conc.EvL (fun l => False ∨ blk l = some Wg) B e
theorem de2_idle {Wg B : Nat} (w : World) : DE2 Wg B w w #[] := by intro e he; simp at he
theorem de2_read {Wg B gS : Nat} {w : World} (h1 : gS ≠ Wg) (h2 : gS < B) : ∀ es : Array Event, (∀ e ∈ es, RdB gS e) → DE2 Wg B w w es := fun es h e he => by
  obtain ⟨ad, rfl, hb⟩ := h e he
  refine evL_cell ad false (fun hs => ?_) (by rw [hb]; exact h2)
  rcases hs with h | h
  · exact h
  · simp [blk] at h; omega

set_option maxRecDepth 100000 in
set_option maxHeartbeats 8000000 in
theorem endM {Wg gS cap : Nat} {cur : Array Value} {T1 T2 : Array Value} (T : Array Value) (hT : T.size = 31) (t30 : T[30]? = some (.slice (some ⟨gS, 0, none⟩) 3 cap)) (h1 : T1.size = 50) (h2 : T2.size = 71) (t68 : T2[68]? = some (.bool true))
    (hcur : ∀ (i : Nat) (x : M4), ([mB1, mA1, mB2] : List M4)[i]? = some x → ∀ (k : Nat) (u : Value), x.cells[k]? = some u → cur[i * 4 + k]? = some u) (hg : gS ≠ Wg) (w0 w : World) (hF : HE gS cur w0 w) :
    ∃ k, Goes Tryd.prog true AtRel (DE2 Wg w0.heap.size) (AtEnd Tryd.prog (fun l => False ∨ blk l = some Wg) w0.heap.size (fun v w' => v = .bool true ∧ w'.heap = w0.heap ∧ w'.tape = w0.tape ∧ w'.os = w0.os ∧ w'.output = w0.output)) k
      (G ((base 19).at ⟨T, []⟩ (.inRegion ops16 [2, 3] :: [.code tail16])) [cK T1, cG T2]) w := by
  obtain ⟨v0, v1, v2, v3, v4, v5, v6, v7, v8, v9, v10, v11, v12, v13, v14, v15, v16, v17, v18, v19, v20, v21, v22, v23, v24, v25, v26, v27, v28, v29, v30, rfl⟩ := array31 T hT
  simp only [List.getElem?_toArray, List.getElem?_cons_succ, List.getElem?_cons_zero, Option.some.injEq] at t30
  subst t30
  obtain ⟨u0, u1, u2, u3, u4, u5, u6, u7, u8, u9, u10, u11, u12, u13, u14, u15, u16, u17, u18, u19, u20, u21, u22, u23, u24, u25, u26, u27, u28, u29, u30, u31, u32, u33, u34, u35, u36, u37, u38, u39, u40, u41, u42, u43, u44, u45, u46, u47, u48, u49, rfl⟩ := array50 T1 h1
  simp only [cK, ops1K, tail1K, bodyK, ops16, tail16, tailM, bodyM, tail14, Tryd.f19, Tryd.f12, Option.getD_some]
  refine ⟨200 + 60, ?_⟩
  refine goes_bind0 (n := 200) (m := 60) atRel_refl de2_idle ?_
  u_op HE.rel hF
  u_op HE.rel hF
  u_c stepG_region_end HE.rel hF
  u_c stepG_ret' HE.rel hF
  refine Goes.stop (fun w₁ h₁ => ?_)
  replace hF := hF.rel h₁
  clear h₁
  have Tm : Terms AtRel (DE2 Wg w0.heap.size) := ⟨atRel_trans, de2_idle⟩
  refine goes_leaveC (n := 199) Tm Tryd.func19 rfl (resultsC_tmp2 (by rfl) _) ?_
  walk_nrm
  refine goes_bind0 (n := 150) (m := 49) atRel_refl de2_idle ?_
  u_op HE.rel hF
  u_op HE.rel hF
  u_op HE.rel hF
  u_op HE.rel hF
  u_op HE.rel hF
  u_c stepG_region_end HE.rel hF
  u_c stepG_seq HE.rel hF
  u_reg HE.rel hF
  u_op HE.rel hF
  u_op HE.rel hF
  u_op HE.rel hF
  u_op HE.rel hF
  u_op HE.rel hF
  u_op HE.rel hF
  u_op HE.rel hF
  u_op HE.rel hF
  u_op HE.rel hF
  u_op HE.rel hF
  u_op HE.rel hF
  refine Goes.stop (fun w₁ h₁ => ?_)
  replace hF := hF.rel h₁
  clear h₁
  refine goes_mem (n := 149) rfl rfl (by decide) (fun w₁ h₁ => ?_)
  replace hF := hF.rel h₁
  clear h₁
  have hb : w₁.heap[gS]? = some (.cells cur 34 (0, 0)) := by rw [hF.heap]; exact hF.blk
  have hc := hcur 0 mB1 rfl 1 (.string bankB) rfl
  refine ⟨_, _, _, yld_load1 (ad := ⟨gS, 1, none⟩) (v := .string { data := #[66, 65, 78, 75, 66] }) rfl rfl (by rw [cell_of_row _ _ _ _ _ _ hb]; exact hc) (Tryd.isAgg9 _) (evAgg _), de2_read hg (heap_lt hF.blk), ?_⟩
  clear hb hc
  walk_nrm
  refine goes_bind0 (n := 120) (m := 29) atRel_refl de2_idle ?_
  u_op HE.rel hF
  u_op HE.rel hF
  u_op HE.rel hF
  u_op HE.rel hF
  u_op HE.rel hF
  u_op HE.rel hF
  refine Goes.stop (fun w₁ h₁ => ?_)
  replace hF := hF.rel h₁
  clear h₁
  refine goes_mem (n := 119) rfl rfl (by decide) (fun w₁ h₁ => ?_)
  replace hF := hF.rel h₁
  clear h₁
  have hb : w₁.heap[gS]? = some (.cells cur 34 (0, 0)) := by rw [hF.heap]; exact hF.blk
  have hc := hcur 1 mA1 rfl 1 (.string bankA) rfl
  refine ⟨_, _, _, yld_load1 (ad := ⟨gS, 5, none⟩) (v := .string { data := #[66, 65, 78, 75, 65] }) rfl rfl (by rw [cell_of_row _ _ _ _ _ _ hb]; exact hc) (Tryd.isAgg9 _) (evAgg _), de2_read hg (heap_lt hF.blk), ?_⟩
  clear hb hc
  walk_nrm
  refine goes_bind0 (n := 100) (m := 19) atRel_refl de2_idle ?_
  u_op HE.rel hF
  u_op HE.rel hF
  u_op HE.rel hF
  u_op HE.rel hF
  u_op HE.rel hF
  u_op HE.rel hF
  refine Goes.stop (fun w₁ h₁ => ?_)
  replace hF := hF.rel h₁
  clear h₁
  refine goes_mem (n := 99) rfl rfl (by decide) (fun w₁ h₁ => ?_)
  replace hF := hF.rel h₁
  clear h₁
  have hb : w₁.heap[gS]? = some (.cells cur 34 (0, 0)) := by rw [hF.heap]; exact hF.blk
  have hc := hcur 2 mB2 rfl 1 (.string bankB) rfl
  refine ⟨_, _, _, yld_load1 (ad := ⟨gS, 9, none⟩) (v := .string { data := #[66, 65, 78, 75, 66] }) rfl rfl (by rw [cell_of_row _ _ _ _ _ _ hb]; exact hc) (Tryd.isAgg9 _) (evAgg _), de2_read hg (heap_lt hF.blk), ?_⟩
  clear hb hc
  walk_nrm
  refine goes_bind0 (n := 80) (m := 19) atRel_refl de2_idle ?_
  u_op HE.rel hF
  u_op HE.rel hF
  u_op HE.rel hF
  u_op HE.rel hF
  u_op HE.rel hF
  u_op HE.rel hF
  refine Goes.stop (fun w₁ h₁ => ?_)
  replace hF := hF.rel h₁
  clear h₁
  refine goes_mem (n := 79) rfl rfl (by decide) (fun w₁ h₁ => ?_)
  replace hF := hF.rel h₁
  clear h₁
  have hb : w₁.heap[gS]? = some (.cells cur 34 (0, 0)) := by rw [hF.heap]; exact hF.blk
  have hc := hcur 2 mB2 rfl 2 (.int .i64 2) rfl
  refine ⟨_, _, _, yld_load1 (ad := ⟨gS, 10, none⟩) (v := .int .i64 2) rfl rfl (by rw [cell_of_row _ _ _ _ _ _ hb]; exact hc) (Tryd.isAgg3 _) (evAgg _), de2_read hg (heap_lt hF.blk), ?_⟩
  clear hb hc
  walk_nrm
  refine goes_bind0 (n := 60) (m := 19) atRel_refl de2_idle ?_
  u_op HE.rel hF
  u_op HE.rel hF
  u_op HE.rel hF
  u_c stepG_region_end HE.rel hF
  u_c stepG_ret' HE.rel hF
  refine Goes.stop (fun w₁ h₁ => ?_)
  replace hF := hF.rel h₁
  clear h₁
  simp only [cG]
  refine goes_leaveC (n := 59) Tm Tryd.func12 rfl (resultsC_tmp (by rfl) _) ?_
  have hd : (ops6G[47]?).bind (·.dst) = some 69 := by kernel_rfl
  rw [hd]
  show Goes _ _ _ _ _ _ (G ((base 3).at ((⟨T2, []⟩ : Act).put (some 69) (.bool true)) _) _) _
  have e68 : ((⟨T2, []⟩ : Act).put (some 69) (.bool true)).eval (.tmp 68) = .bool true := by
    rw [eval_put_ne (by decide)]
    simp only [Act.eval, Array.getD_eq_getD_getElem?, t68, Option.getD_some]
  have e69 : ((⟨T2, []⟩ : Act).put (some 69) (.bool true)).eval (.tmp 69) = .bool true := eval_put_same (by show 69 < T2.size; omega)
  simp only [ops6G, tail6G, bodyG, Tryd.f3, Option.getD_some]
  refine goes_mem (n := 58) rfl rfl (by decide) (fun w₁ h₁ => ?_)
  replace hF := hF.rel h₁
  clear h₁
  refine ⟨_, _, NoE, yld_pick rfl e68, fun es h => ?_, ?_⟩
  · have : es = #[] := Array.eq_empty_iff_forall_not_mem.2 fun e he => h e he
    rw [this]; exact de2_idle _
  rw [if_pos rfl, e69]
  refine goes_mem (n := 57) rfl rfl (by decide) (fun w₁ h₁ => ?_)
  replace hF := hF.rel h₁
  clear h₁
  refine ⟨_, _, NoE, yld_assign rfl (eval_put_same (by rw [size_put]; show 70 < T2.size; omega)), fun es h => ?_, ?_⟩
  · have : es = #[] := Array.eq_empty_iff_forall_not_mem.2 fun e he => h e he
    rw [this]; exact de2_idle _
  refine goes_bind0 (n := 7) (m := 50) atRel_refl de2_idle ?_
  u_c stepG_region_end HE.rel hF
  u_c stepG_ret' HE.rel hF
  refine Goes.stop (fun w₁ h₁ => ?_)
  replace hF := hF.rel h₁
  clear h₁
  refine Goes.stop (fun w₁ h₁ => ?_)
  replace hF := hF.rel h₁
  clear h₁
  refine ⟨rfl, _, #[], stepG_ended Tryd.func3 (by kernel_rfl) rfl (resultsC_tmp (by rfl) _), by intro e he; simp at he, ?_, hF.heap, hF.tape, hF.os, hF.output⟩
  exact eval_put_same (by rw [size_put, size_put]; show 2 < T2.size; omega)
end Go.Proofs.YtmmjlngbiilagaaDoor

/-
  FROM MERGE's CHANNEL TO THE LAW's RETURN.
-/
namespace Go.Proofs.YtmmjlngbiilagaaDoor
open Go Go.Conc Go.RowKit Go.Conc.Lib Go.ConcR.Gen Go.Lib
open Go.ConcR (KK wgBlock WgAt stA smA rd wr mk DC0)
open Go.ConcN (WgLive AtD4 WD sumTo upd)

/-- What was there stands. -/
structure Kept (w w' : World) : Prop where
  tape : w'.tape = w.tape
  os : w'.os = w.os
  output : w'.output = w.output
  size : w.heap.size ≤ w'.heap.size
  block : ∀ b, b < w.heap.size → w'.heap[b]? = w.heap[b]?

theorem toFanM {W w : World} {T1 T2 : Array Value} {mB mA : ByteArray} {bst capS bB capB bA capA : Nat} (T : Array Value) (hT : T.size = 31) (t0 : T[0]? = some (.slice (some ⟨bst, 0, none⟩) 2 capS)) (h1 : T1.size = 50) (h2 : T2.size = 71) (t68 : T2[68]? = some (.bool true))
    (hs0 : w.rangeAt bst 0 [.string mB, .slice (some ⟨bB, 0, none⟩) 2 capB]) (hs1 : w.rangeAt bst 2 [.string mA, .slice (some ⟨bA, 0, none⟩) 1 capA])
    (hx : w.rangeAt bB 0 mB1.cells) (hy : w.rangeAt bB 4 mB2.cells) (hz : w.rangeAt bA 0 mA1.cells) (hW : Kept W w) :
    ToFan Tryd.prog (fun v w' => v = .bool true ∧ Kept W w') (G ((base 19).at ⟨T, []⟩ [.code tail4M]) [cK T1, cG T2]) w := by
  refine ⟨XM w [cK T1, cG T2] mB1 mB2 mA1, DB (fun _ => False) (Shy2 w.heap.size (w.heap.size + 2)), 45, rfl, rfl, rfl, wholeX _ _ _ _ _, fun _ _ _ h => h, atFanM T hT t0 hs0 hs1 hx hy hz, ?_⟩
  rintro v a' w' l ⟨⟨hS, hL⟩, T', rfl, hT', t30⟩ hfull ⟨gS, cap, lm, rfl, hlm, rfl, cur, hcur, hcs⟩
  have hsort : isort lm = [mB1, mA1, mB2] := by
    rcases fullX hfull with rfl | rfl | rfl
    · exact isort1
    · exact isort2
    · exact isort3
  rw [hsort] at hcs
  have hg : gS ≠ w.heap.size + 2 := fun e => by
    obtain ⟨st, sm, hw⟩ := hL
    have hw' : w'.heap[w.heap.size + 2]? = some (wgBlock lk.tWg st sm) := hw
    rw [← e, hcur] at hw'
    simp [wgBlock, lk] at hw'
  obtain ⟨k, hk⟩ := endM (Wg := w.heap.size + 2) (T1 := T1) (T2 := T2) T' hT' t30 h1 h2 t68 hcs hg w' w' ⟨rfl, rfl, rfl, rfl, hcur⟩
  refine ⟨DE2 (w.heap.size + 2) w'.heap.size, k, fun _ _ _ h => h, ?_⟩
  have hP : ∀ (v : Value) (w2 : World), (v = .bool true ∧ w2.heap = w'.heap ∧ w2.tape = w'.tape ∧ w2.os = w'.os ∧ w2.output = w'.output) → v = .bool true ∧ Kept W w2 := by
    rintro v w2 ⟨h1, h2, h3, h4, h5⟩
    have e1 : (wF w).tape = w.tape := rfl
    have e2 : (wF w).os = w.os := rfl
    have e3 : (wF w).output = w.output := rfl
    refine ⟨h1, h3.trans (hS.tape.trans (e1.trans hW.tape)), h4.trans (hS.os.trans (e2.trans hW.os)), h5.trans (hS.output.trans (e3.trans hW.output)), ?_, fun b hb => ?_⟩
    · have h6 := hS.size
      have h7 := size_wF w
      have h8 := hW.size
      rw [h2]; omega
    · have hb' : b < w.heap.size := Nat.lt_of_lt_of_le hb hW.size
      rw [h2, hS.block b ⟨by omega, by omega, by omega⟩, old_wF w hb', hW.block b hb]
  have key : ∀ (k : Nat) (g : Goroutine) (u : World), Goes Tryd.prog true AtRel (DE2 (w.heap.size + 2) w'.heap.size) (AtEnd Tryd.prog (fun l => False ∨ blk l = some (w.heap.size + 2)) w'.heap.size (fun v w'' => v = .bool true ∧ w''.heap = w'.heap ∧ w''.tape = w'.tape ∧ w''.os = w'.os ∧ w''.output = w'.output)) k g u →
      Goes Tryd.prog true AtRel (DE2 (w.heap.size + 2) w'.heap.size) (AtEnd Tryd.prog (ShunE (XM w [cK T1, cG T2] mB1 mB2 mA1)) w'.heap.size (fun v w'' => v = .bool true ∧ Kept W w'')) k g u := by
    intro k
    have st : ∀ g u, AtEnd Tryd.prog (fun l => False ∨ blk l = some (w.heap.size + 2)) w'.heap.size (fun v w'' => v = .bool true ∧ w''.heap = w'.heap ∧ w''.tape = w'.tape ∧ w''.os = w'.os ∧ w''.output = w'.output) g u → AtEnd Tryd.prog (ShunE (XM w [cK T1, cG T2] mB1 mB2 mA1)) w'.heap.size (fun v w'' => v = .bool true ∧ Kept W w'') g u :=
      fun g u ⟨h1, v, es, h2, h3, h4⟩ => ⟨h1, v, es, h2, h3, hP v u h4⟩
    induction k with
    | zero => exact fun g u h w₁ h₁ => st _ _ (h w₁ h₁)
    | succ k ih =>
      intro g u h
      rcases h with h | ⟨hs, h⟩
      · exact .inl fun w₁ h₁ => st _ _ (h w₁ h₁)
      · refine .inr ⟨hs, fun w₁ h₁ => ?_⟩
        have := h w₁ h₁
        revert this
        cases stepG Tryd.prog true g w₁ <;> simp only [GStep.goes, imp_self]
        exact fun ⟨d, x⟩ => ⟨d, ih _ _ x⟩
  exact key k _ _ hk
end Go.Proofs.YtmmjlngbiilagaaDoor

/-
  THE METHODS OF NIL GATEWAYS AND ERRORS.
-/
namespace Go.Proofs.YtmmjlngbiilagaaDoor
open Go Go.Conc Go.RowKit Go.Lib

section
variable {w : World}
theorem run_eqNil {P : Program} {t e : TypeId} (ht : P.underlying t = some (.pointer e)) : (Op.equal t (.pointer none) (.pointer none)).run P w = .ok true w := by
  have h : ∀ d : Nat, (Op.equalIn (d + 1) t (.pointer none) (.pointer none)).run P w = .ok true w := fun d => by
    simp [Op.equalIn, run_underlying ht]
  simp [Op.equal, Op.maxDepth, h 9999]
theorem ev_eqNil {P : Program} {t e : TypeId} (ht : P.underlying t = some (.pointer e)) (es : Array Event) : (Op.equal t (.pointer none) (.pointer none)).events P w es = es := by
  have h : ∀ d : Nat, (Op.equalIn (d + 1) t (.pointer none) (.pointer none)).events P w es = es := fun d => by
    simp [Op.equalIn, Sem.events_bind, run_underlying ht]
  simp [Op.equal, Op.maxDepth, h 9999]
/-- A nil address compared with nil. -/
theorem yld_eqNil {P : Program} {o : Oper} {a : Act} {t t' e : TypeId} {x : Operand} (ht : P.underlying t = some (.pointer e)) (ho : o.op = .binOp .eql t x (.const (.pointer none)) t') (hx : a.eval x = .pointer none) : Yld P o a w NoE (a.put o.dst (.bool true)) w := by
  have hc : a.eval (.const (.pointer none)) = .pointer none := rfl
  refine yld_none ?_ ?_
  · unfold execOp
    simp only [ho, hx, hc]
    simp [binOp, eqGuard, run_eqNil ht]
  · unfold execOp
    simp only [ho, hx, hc]
    simp [binOp, eqGuard, ev_eqNil ht]
theorem T_none {R : World → World → Prop} {D : World → World → Array Event → Prop} (T : Terms R D) {es : Array Event} (h : ∀ e ∈ es, NoE e) : D w w es := by
  have : es = #[] := Array.eq_empty_iff_forall_not_mem.2 fun e he => h e he
  rw [this]
  exact T.idle _
end

section
variable {main : Bool} {R : World → World → Prop} {D : World → World → Array Event → Prop}
set_option maxRecDepth 100000 in
theorem close_c (T : Terms R D) : ∃ n, ∀ (w : World), CallsC Tryd.prog main R D 4 #[.pointer none] n w fun v w' => v = .tuple #[.slice none 0 0, .int .i64 1] ∧ Since R w w' := by
  co_apply Exists.intro
  intro w
  co_apply callsC_of_wpC Tryd.func4 (by rfl) rfl
  have hF : Since R w w := .refl w
  simp only [Tryd.ntmps4, List.size_toArray, List.length_cons, List.length_nil, Nat.reduceAdd, Nat.reduceSub, Array.replicate_succ, Array.replicate_zero, List.push_toArray, List.append_toArray, List.nil_append, List.cons_append]
  co_apply wpC_seq T
  co_reg T
  co_op (Since.rely T) hF (co_quiet T)
  co_op (Since.rely T) hF (co_quiet T)
  co_apply opsC_nil T
  co_then
  co_apply wpC_seq T (n₂ := 0)
  co_apply wpC_seq T
  co_reg T
  co_op (Since.rely T) hF (co_quiet T)
  co_apply opsC_yld rfl (by rfl)
  intro w₁ hR
  replace hF := Since.rely T hF hR
  clear hR
  refine ⟨_, _, _, yld_eqNil (e := 51) (by kernel_rfl) rfl rfl, fun es h => ?_, ?_⟩
  focus exact T_none T h
  walk_nrm
  co_apply opsC_nil T
  co_then
  co_apply wpC_cond T (t := true)
  focus (exact rfl)
  simp only [if_true]
  co_apply wpC_seq T
  co_reg T
  co_op (Since.rely T) hF (co_quiet T)
  co_op (Since.rely T) hF (co_quiet T)
  co_apply opsC_nil T
  co_then
  co_apply wpC_ret T
  exact ⟨rfl, _, resultsC_tmp2 (by rfl) _, rfl, hF⟩

set_option maxRecDepth 100000 in
theorem next_c (T : Terms R D) : ∃ n, ∀ (m : ByteArray) (w : World), CallsC Tryd.prog main R D 5 #[.pointer none, .string m] n w fun v w' => v = .tuple #[.int .i64 0, .int .i64 1] ∧ Since R w w' := by
  co_apply Exists.intro
  intro m w
  co_apply callsC_of_wpC Tryd.func5 (by rfl) rfl
  have hF : Since R w w := .refl w
  simp only [Tryd.ntmps5, List.size_toArray, List.length_cons, List.length_nil, Nat.reduceAdd, Nat.reduceSub, Array.replicate_succ, Array.replicate_zero, List.push_toArray, List.append_toArray, List.nil_append, List.cons_append]
  co_apply wpC_seq T
  co_reg T
  co_op (Since.rely T) hF (co_quiet T)
  co_op (Since.rely T) hF (co_quiet T)
  co_apply opsC_nil T
  co_then
  co_apply wpC_seq T (n₂ := 0)
  co_apply wpC_seq T
  co_reg T
  co_op (Since.rely T) hF (co_quiet T)
  co_apply opsC_yld rfl (by rfl)
  intro w₁ hR
  replace hF := Since.rely T hF hR
  clear hR
  refine ⟨_, _, _, yld_eqNil (e := 51) (by kernel_rfl) rfl rfl, fun es h => ?_, ?_⟩
  focus exact T_none T h
  walk_nrm
  co_apply opsC_nil T
  co_then
  co_apply wpC_cond T (t := true)
  focus (exact rfl)
  simp only [if_true]
  co_apply wpC_seq T
  co_reg T
  co_op (Since.rely T) hF (co_quiet T)
  co_op (Since.rely T) hF (co_quiet T)
  co_apply opsC_nil T
  co_then
  co_apply wpC_ret T
  exact ⟨rfl, _, resultsC_tmp2 (by rfl) _, rfl, hF⟩

set_option maxRecDepth 100000 in
theorem tick_c (T : Terms R D) : ∃ n, ∀ (w : World), CallsC Tryd.prog main R D 7 #[.pointer none] n w fun v w' => v = .int .i64 0 ∧ Since R w w' := by
  co_apply Exists.intro
  intro w
  co_apply callsC_of_wpC Tryd.func7 (by rfl) rfl
  have hF : Since R w w := .refl w
  simp only [Tryd.ntmps7, List.size_toArray, List.length_cons, List.length_nil, Nat.reduceAdd, Nat.reduceSub, Array.replicate_succ, Array.replicate_zero, List.push_toArray, List.append_toArray, List.nil_append, List.cons_append]
  co_apply wpC_seq T
  co_reg T
  co_op (Since.rely T) hF (co_quiet T)
  co_apply opsC_nil T
  co_then
  co_apply wpC_seq T (n₂ := 0)
  co_apply wpC_seq T
  co_reg T
  co_op (Since.rely T) hF (co_quiet T)
  co_apply opsC_yld rfl (by rfl)
  intro w₁ hR
  replace hF := Since.rely T hF hR
  clear hR
  refine ⟨_, _, _, yld_eqNil (e := 51) (by kernel_rfl) rfl rfl, fun es h => ?_, ?_⟩
  focus exact T_none T h
  walk_nrm
  co_apply opsC_nil T
  co_then
  co_apply wpC_cond T (t := true)
  focus (exact rfl)
  simp only [if_true]
  co_apply wpC_seq T
  co_reg T
  co_op (Since.rely T) hF (co_quiet T)
  co_apply opsC_nil T
  co_then
  co_apply wpC_ret T
  exact ⟨rfl, _, resultsC_tmp (by rfl) _, rfl, hF⟩

set_option maxRecDepth 100000 in
theorem waiting_c (T : Terms R D) : ∃ n, ∀ (w : World), CallsC Tryd.prog main R D 8 #[.pointer none] n w fun v w' => v = .int .i64 0 ∧ Since R w w' := by
  co_apply Exists.intro
  intro w
  co_apply callsC_of_wpC Tryd.func8 (by rfl) rfl
  have hF : Since R w w := .refl w
  simp only [Tryd.ntmps8, List.size_toArray, List.length_cons, List.length_nil, Nat.reduceAdd, Nat.reduceSub, Array.replicate_succ, Array.replicate_zero, List.push_toArray, List.append_toArray, List.nil_append, List.cons_append]
  co_apply wpC_seq T
  co_reg T
  co_op (Since.rely T) hF (co_quiet T)
  co_apply opsC_nil T
  co_then
  co_apply wpC_seq T (n₂ := 0)
  co_apply wpC_seq T
  co_reg T
  co_op (Since.rely T) hF (co_quiet T)
  co_apply opsC_yld rfl (by rfl)
  intro w₁ hR
  replace hF := Since.rely T hF hR
  clear hR
  refine ⟨_, _, _, yld_eqNil (e := 51) (by kernel_rfl) rfl rfl, fun es h => ?_, ?_⟩
  focus exact T_none T h
  walk_nrm
  co_apply opsC_nil T
  co_then
  co_apply wpC_cond T (t := true)
  focus (exact rfl)
  simp only [if_true]
  co_apply wpC_seq T
  co_reg T
  co_op (Since.rely T) hF (co_quiet T)
  co_apply opsC_nil T
  co_then
  co_apply wpC_ret T
  exact ⟨rfl, _, resultsC_tmp (by rfl) _, rfl, hF⟩

set_option maxRecDepth 100000 in
theorem rejErr_c (T : Terms R D) : ∃ n, ∀ (w : World), CallsC Tryd.prog main R D 9 #[.pointer none] n w fun v w' => v = .string { data := #[103, 97, 116, 101, 119, 97, 121, 58, 32, 109, 101, 115, 115, 97, 103, 101, 32, 114, 101, 106, 101, 99, 116, 101, 100] } ∧ Since R w w' := by
  co_apply Exists.intro
  intro w
  co_apply callsC_of_wpC Tryd.func9 (by rfl) rfl
  have hF : Since R w w := .refl w
  simp only [Tryd.ntmps9, List.size_toArray, List.length_cons, List.length_nil, Nat.reduceAdd, Nat.reduceSub, Array.replicate_succ, Array.replicate_zero, List.push_toArray, List.append_toArray, List.nil_append, List.cons_append]
  co_apply wpC_seq T
  co_reg T
  co_op (Since.rely T) hF (co_quiet T)
  co_apply opsC_nil T
  co_then
  co_apply wpC_seq T (n₂ := 0)
  co_apply wpC_seq T
  co_reg T
  co_op (Since.rely T) hF (co_quiet T)
  co_apply opsC_yld rfl (by rfl)
  intro w₁ hR
  replace hF := Since.rely T hF hR
  clear hR
  refine ⟨_, _, _, yld_eqNil (e := 55) (by kernel_rfl) rfl rfl, fun es h => ?_, ?_⟩
  focus exact T_none T h
  walk_nrm
  co_op (Since.rely T) hF (co_quiet T)
  co_apply opsC_unwanted T rfl (by rfl)
  walk_nrm
  co_apply opsC_unwanted T rfl (by rfl)
  walk_nrm
  co_apply opsC_unwanted T rfl (by rfl)
  walk_nrm
  co_apply opsC_unwanted T rfl (by rfl)
  walk_nrm
  co_apply opsC_unwanted T rfl (by rfl)
  walk_nrm
  co_op (Since.rely T) hF (co_quiet T)
  co_apply opsC_nil T
  co_then
  co_apply wpC_cond T (t := true)
  focus (exact rfl)
  simp only [if_true]
  co_apply wpC_seq T
  co_reg T
  co_op (Since.rely T) hF (co_quiet T)
  co_apply opsC_nil T
  co_then
  co_apply wpC_ret T
  exact ⟨rfl, _, resultsC_tmp (by rfl) _, rfl, hF⟩

set_option maxRecDepth 100000 in
theorem unwrap_c (T : Terms R D) : ∃ n, ∀ (w : World), CallsC Tryd.prog main R D 10 #[.pointer none] n w fun v w' => v = .nilIface ∧ Since R w w' := by
  co_apply Exists.intro
  intro w
  co_apply callsC_of_wpC Tryd.func10 (by rfl) rfl
  have hF : Since R w w := .refl w
  simp only [Tryd.ntmps10, List.size_toArray, List.length_cons, List.length_nil, Nat.reduceAdd, Nat.reduceSub, Array.replicate_succ, Array.replicate_zero, List.push_toArray, List.append_toArray, List.nil_append, List.cons_append]
  co_apply wpC_seq T
  co_reg T
  co_op (Since.rely T) hF (co_quiet T)
  co_apply opsC_nil T
  co_then
  co_apply wpC_seq T (n₂ := 0)
  co_apply wpC_seq T
  co_reg T
  co_op (Since.rely T) hF (co_quiet T)
  co_apply opsC_yld rfl (by rfl)
  intro w₁ hR
  replace hF := Since.rely T hF hR
  clear hR
  refine ⟨_, _, _, yld_eqNil (e := 55) (by kernel_rfl) rfl rfl, fun es h => ?_, ?_⟩
  focus exact T_none T h
  walk_nrm
  co_apply opsC_nil T
  co_then
  co_apply wpC_cond T (t := true)
  focus (exact rfl)
  simp only [if_true]
  co_apply wpC_seq T
  co_reg T
  co_op (Since.rely T) hF (co_quiet T)
  co_apply opsC_nil T
  co_then
  co_apply wpC_ret T
  exact ⟨rfl, _, resultsC_tmp (by rfl) _, rfl, hF⟩

set_option maxRecDepth 100000 in
theorem invErr_c (T : Terms R D) : ∃ n, ∀ (w : World), CallsC Tryd.prog main R D 11 #[.pointer none] n w fun v w' => v = .string { data := #[103, 97, 116, 101, 119, 97, 121, 58, 32, 105, 110, 118, 97, 108, 105, 100, 32, 97, 114, 103, 117, 109, 101, 110, 116, 115] } ∧ Since R w w' := by
  co_apply Exists.intro
  intro w
  co_apply callsC_of_wpC Tryd.func11 (by rfl) rfl
  have hF : Since R w w := .refl w
  simp only [Tryd.ntmps11, List.size_toArray, List.length_cons, List.length_nil, Nat.reduceAdd, Nat.reduceSub, Array.replicate_succ, Array.replicate_zero, List.push_toArray, List.append_toArray, List.nil_append, List.cons_append]
  co_apply wpC_seq T
  co_reg T
  co_op (Since.rely T) hF (co_quiet T)
  co_apply opsC_nil T
  co_then
  co_apply wpC_seq T (n₂ := 0)
  co_apply wpC_seq T
  co_reg T
  co_op (Since.rely T) hF (co_quiet T)
  co_apply opsC_yld rfl (by rfl)
  intro w₁ hR
  replace hF := Since.rely T hF hR
  clear hR
  refine ⟨_, _, _, yld_eqNil (e := 58) (by kernel_rfl) rfl rfl, fun es h => ?_, ?_⟩
  focus exact T_none T h
  walk_nrm
  co_apply opsC_nil T
  co_then
  co_apply wpC_cond T (t := true)
  focus (exact rfl)
  simp only [if_true]
  co_apply wpC_seq T
  co_reg T
  co_op (Since.rely T) hF (co_quiet T)
  co_apply opsC_nil T
  co_then
  co_apply wpC_ret T
  exact ⟨rfl, _, resultsC_tmp (by rfl) _, rfl, hF⟩

end
end Go.Proofs.YtmmjlngbiilagaaDoor

/-
  SEND ON A NIL GATEWAY.
-/
namespace Go.Proofs.YtmmjlngbiilagaaDoor
open Go Go.Conc Go.RowKit Go.Lib

/-- The guarantee before any goroutine is there. -/
def D0 : World → World → Array Event → Prop := DB (fun _ => False) (fun _ => True)
theorem T0 : Terms AtRel D0 := ⟨atRel_trans, db_idle⟩
theorem draw0 : LetsDraw D0 := fun _ => ⟨Nat.le_refl _, by simp⟩
theorem kept_grew {w w' : World} (h : Grew w w') : Kept w w' := ⟨h.tape, h.os, h.output, h.size, h.block⟩

section
variable {main : Bool}
set_option maxRecDepth 100000 in
theorem send_c : ∃ n, ∀ (m : Value) (w : World), CallsC Tryd.prog main AtRel D0 6 #[.pointer none, m] n w fun v w' => v = .int .i64 1 ∧ Grew w w' := by
  have T := T0
  co_apply Exists.intro
  intro m w
  co_apply callsC_of_wpC Tryd.func6 (by rfl) rfl
  have hF : Grew w w := .refl w
  simp only [Tryd.ntmps6, List.size_toArray, List.length_cons, List.length_nil, Nat.reduceAdd, Nat.reduceSub, Array.replicate_succ, Array.replicate_zero, List.push_toArray, List.append_toArray, List.nil_append, List.cons_append]
  co_apply wpC_seq T
  co_reg T
  co_apply opsC_yld rfl (by rfl)
  intro w₁ hR
  replace hF := hF.rel hR
  clear hR
  refine ⟨_, _, _, yld_box rfl, db_new _, ?_⟩
  replace hF := hF.alloc (.cells (Value.cells m) 34)
  walk_nrm
  generalize w₁.alloc _ = w₂ at hF ⊢
  generalize w₁.heap.size = g
  clear w₁
  co_op Grew.rel hF (co_quiet T)
  co_apply opsC_nil T
  co_then
  co_apply wpC_seq T (n₂ := 0)
  co_apply wpC_seq T
  co_reg T
  co_op Grew.rel hF (co_quiet T)
  co_apply opsC_yld rfl (by rfl)
  intro w₁ hR
  replace hF := Grew.rel hF hR
  clear hR
  refine ⟨_, _, _, yld_eqNil (e := 51) (by kernel_rfl) rfl rfl, fun es h => ?_, ?_⟩
  focus exact T_none T h
  walk_nrm
  co_apply opsC_nil T
  co_then
  co_apply wpC_cond T (t := true)
  focus (exact rfl)
  simp only [if_true]
  co_apply wpC_seq T
  co_reg T
  co_op Grew.rel hF (co_quiet T)
  co_apply opsC_nil T
  co_then
  co_apply wpC_ret T
  exact ⟨rfl, _, resultsC_tmp (by rfl) _, rfl, hF⟩
end
end Go.Proofs.YtmmjlngbiilagaaDoor

/-
  LOOPS ROUND BY ROUND; LETTERS.
-/
namespace Go.Proofs.YtmmjlngbiilagaaDoor
open Go Go.Conc Go.RowKit Go.Lib

section
variable {P : Program} {main : Bool} {R : World → World → Prop} {D : World → World → Array Event → Prop} {fn : FuncId} {Q : Exit → Act → World → Prop} {a : Act} {w : World} {c : Code} {n r : Nat}
/-- At the beginning of a loop's round. -/
def LoopC (P : Program) (main : Bool) (R : World → World → Prop) (D : World → World → Array Event → Prop) (fn : FuncId) (c : Code) (n : Nat) (Q : Exit → Act → World → Prop) (a : Act) (w : World) : Prop :=
  ∀ (b : Frame) (k : List Item) (cs : List Frame) (Stop : Goroutine → World → Prop) (m : Nat), b.fn = fn → b.kind ≠ .early →
    (∀ e a' w', Q e a' w' → After P main R D Stop m b k cs e a' w') → Goes P main R D Stop (m + n) (G (b.at a (.code c :: .inLoop c :: k)) cs) w
theorem loopC_round (T : Terms R D) (h : c.wpC P main R D fn r (Exit.then (fun a' w' => LoopC P main R D fn c n Q a' w') Q) a w) : LoopC P main R D fn c (n + 1 + r) Q a w := by
  intro b k cs Stop m hb hk hc
  have := h b (.inLoop c :: k) cs Stop (m + n + 1) hb hk fun e a' w' q => by
    cases e with
    | normal => exact Goes.step rfl fun w₁ h₁ => by rw [stepG_inLoop]; exact ⟨T.idle _, Goes.rely T.trans (q b k cs Stop m hb hk hc) h₁⟩
    | exit id => exact ((hc _ _ _ q).mono (by omega)).push rfl (by simp)
    | ret => exact ((hc _ _ _ q).mono (by omega)).push (x := .inLoop c) rfl (by simp)
    | goto l => exact hc _ _ _ q
    | panic ch => exact hc _ _ _ q
    | outgrown => exact hc _ _ _ q
  exact this.mono (by omega)
theorem wpC_loop_in (T : Terms R D) (h : LoopC P main R D fn c n Q a w) : (Code.loop c).wpC P main R D fn (n + 1) Q a w := by
  intro b k cs Stop m hb hk hc
  exact Goes.step rfl fun w₁ h₁ => by rw [stepG_loop]; exact ⟨T.idle _, Goes.rely T.trans (h b k cs Stop m hb hk hc) h₁⟩
end

section
variable {main : Bool}
theorem yld_geq8 {o : Oper} {a : Act} {w : World} {x y : Operand} {p q : Int} (h : q ≤ p) (ho : o.op = .binOp .geq 5 x y 5) (hx : a.eval x = .int .u8 p) (hy : a.eval y = .int .u8 q) : Yld Tryd.prog o a w NoE (a.put o.dst (.bool true)) w := by
  refine yld_none ?_ ?_
  · unfold execOp
    simp only [ho, hx, hy]
    simp [go_sem, h]
  · unfold execOp
    simp only [ho, hx, hy]
    simp [go_sem]
theorem yld_leq8 {o : Oper} {a : Act} {w : World} {x y : Operand} {p q : Int} (h : p ≤ q) (ho : o.op = .binOp .leq 5 x y 5) (hx : a.eval x = .int .u8 p) (hy : a.eval y = .int .u8 q) : Yld Tryd.prog o a w NoE (a.put o.dst (.bool true)) w := by
  refine yld_none ?_ ?_
  · unfold execOp
    simp only [ho, hx, hy]
    simp [go_sem, h]
  · unfold execOp
    simp only [ho, hx, hy]
    simp [go_sem]
set_option maxRecDepth 100000 in
theorem letter_c : ∃ n, ∀ (c : Int) (w : World), 65 ≤ c → c ≤ 90 → CallsC Tryd.prog main AtRel D0 119 #[.int .u8 c] n w fun v w' => v = .bool true ∧ Grew w w' := by
  have T := T0
  co_apply Exists.intro
  intro c w h1 h2
  co_apply callsC_of_wpC Tryd.func119 (by rfl) rfl
  have hF : Grew w w := .refl w
  simp only [Tryd.ntmps119, List.size_toArray, List.length_cons, List.length_nil, Nat.reduceAdd, Nat.reduceSub, Array.replicate_succ, Array.replicate_zero, List.push_toArray, List.append_toArray, List.nil_append, List.cons_append]
  co_apply wpC_seq T
  co_reg T
  co_op Grew.rel hF (co_quiet T)
  co_apply opsC_nil T
  co_then
  co_apply wpC_seq T
  co_reg T
  co_op Grew.rel hF (co_quiet T)
  co_apply opsC_yld rfl (by rfl)
  intro w₁ hR
  replace hF := Grew.rel hF hR
  clear hR
  refine ⟨_, _, _, yld_geq8 h1 rfl rfl rfl, fun es h => ?_, ?_⟩
  focus exact T_none T h
  walk_nrm
  co_op Grew.rel hF (co_quiet T)
  co_op Grew.rel hF (co_quiet T)
  co_apply opsC_yld rfl (by rfl)
  intro w₁ hR
  replace hF := Grew.rel hF hR
  clear hR
  refine ⟨_, _, _, yld_leq8 h2 rfl rfl rfl, fun es h => ?_, ?_⟩
  focus exact T_none T h
  walk_nrm
  co_op Grew.rel hF (co_quiet T)
  co_op Grew.rel hF (co_quiet T)
  co_apply opsC_nil T
  co_then
  co_apply wpC_ret T
  exact ⟨rfl, _, resultsC_tmp (by rfl) _, rfl, hF⟩
set_option maxRecDepth 100000 in
theorem alnum_c : ∃ n, ∀ (c : Int) (w : World), 65 ≤ c → c ≤ 90 → CallsC Tryd.prog main AtRel D0 120 #[.int .u8 c] n w fun v w' => v = .bool true ∧ Grew w w' := by
  have T := T0
  obtain ⟨nl, hl⟩ := letter_c (main := main)
  co_apply Exists.intro
  intro c w h1 h2
  co_apply callsC_of_wpC Tryd.func120 (by rfl) rfl
  have hF : Grew w w := .refl w
  simp only [Tryd.ntmps120, List.size_toArray, List.length_cons, List.length_nil, Nat.reduceAdd, Nat.reduceSub, Array.replicate_succ, Array.replicate_zero, List.push_toArray, List.append_toArray, List.nil_append, List.cons_append]
  co_apply wpC_seq T
  co_reg T
  co_op Grew.rel hF (co_quiet T)
  co_apply opsC_nil T
  co_then
  co_apply wpC_seq T
  co_reg T
  co_op Grew.rel hF (co_quiet T)
  co_apply opsC_call T rfl (by rfl) rfl
  focus (walk_nrm; exact hl _ _ h1 h2)
  rintro v w' ⟨rfl, hs⟩
  replace hF := hF.trans hs
  clear hs
  walk_nrm
  co_op Grew.rel hF (co_quiet T)
  co_apply opsC_unwanted T rfl (by rfl)
  walk_nrm
  co_apply opsC_unwanted T rfl (by rfl)
  walk_nrm
  co_op Grew.rel hF (co_quiet T)
  co_op Grew.rel hF (co_quiet T)
  co_apply opsC_nil T
  co_then
  co_apply wpC_ret T
  exact ⟨rfl, _, resultsC_tmp (by rfl) _, rfl, hF⟩
end
end Go.Proofs.YtmmjlngbiilagaaDoor

/-
  THE IDENTIFIER's CLASSES: laws.
-/
namespace Go.Proofs.YtmmjlngbiilagaaDoor
open Go Go.Conc Go.RowKit Go.Lib

def letterV : Value := .func (.func 119) #[] #[]
def alnumV : Value := .func (.func 120) #[] #[]
/-- The second kind, as the table holds it. -/
def kindV (sb so cap : Nat) : Value := .agg #[.int .i64 4, .slice (some ⟨sb, so, none⟩) 2 cap, .int .i64 0, .nilFunc]
/-- What the variable kinds holds, as far as it is read here. -/
structure KindsAt (sb so cap : Nat) (w : World) : Prop where
  kinds : w.rangeAt 2 4 (kindV sb so cap).cells.toList
  spans : w.rangeAt sb so [.int .i64 1, letterV, .int .i64 7, alnumV]
theorem Grew.range {w w' : World} (h : Grew w w') {b o : Nat} {l : List Value} (hr : w.rangeAt b o l) : w'.rangeAt b o l := fun j v hv => by
  have h1 := hr j v hv
  have hb : b < w.heap.size := World.block_lt_of_cell? w _ h1
  simp only [World.cell?] at h1 ⊢
  rw [h.block b hb]
  exact h1
theorem KindsAt.grew {sb so cap : Nat} {w w' : World} (h : KindsAt sb so cap w) (g : Grew w w') : KindsAt sb so cap w' := ⟨g.range h.kinds, g.range h.spans⟩

section
variable {o : Oper} {a : Act} {w : World}
theorem yld_index142 {x y : Operand} {b off n cap k : Nat} (hk : k < n) (ho : o.op = .indexAddr 142 x y) (hx : a.eval x = .slice (some ⟨b, off, none⟩) n cap) (hy : a.eval y = .int .i64 k) :
    Yld Tryd.prog o a w NoE (a.put o.dst (.pointer (some ⟨b, off + k * 2, none⟩))) w := by
  have hd : (⟨b, off, none⟩ : Addr).add (k * 2) = ⟨b, off + k * 2, none⟩ := by rw [add0]
  have h0 : (0 : Int) ≤ (k : Int) ∧ (k : Int) < (n : Int) := by omega
  refine yld_none ?_ ?_
  · unfold execOp
    simp [ho, hx, hy, Instr.indexAt, asIntOf, Tryd.runUnderlying142, Tryd.sizeOf155, hd, h0, hk]
  · unfold execOp
    simp [ho, hx, hy, Instr.indexAt, asIntOf, Tryd.runUnderlying142, Tryd.sizeOf155, hd, h0, hk, evUnd, evSize]
theorem info153 : (Tryd.prog.info? 153).map (fun i => (i.zero, i.size, i.bytes)) = some (some .nilFunc, 1, 8) := by kernel_rfl
theorem fill153 (f : FuncId) : Instr.fill (fun i => some (i * 1, 1)) ((Array.range (1 * 1)).map (Value.nilFunc.cells[· % Value.nilFunc.cells.size]!)) [(0, .func (.func f) #[] #[])] = some #[.func (.func f) #[] #[]] := by
  kernel_rfl
theorem info_parts3 {t : TypeId} {z : Value} {s b : Nat} (h : (Tryd.prog.info? t).map (fun i => (i.zero, i.size, i.bytes)) = some (some z, s, b)) : ∃ i, Tryd.prog.info? t = some i ∧ i.zero = some z ∧ i.size = s ∧ i.bytes = b := by
  cases hi : Tryd.prog.info? t with
  | none => rw [hi] at h; cases h
  | some i =>
    rw [hi] at h
    simp only [Option.map_some, Option.some.injEq, Prod.mk.injEq] at h
    exact ⟨i, rfl, h.1, h.2.1, h.2.2⟩
end

/-- While the classes are laid out. -/
structure HQ (w0 : World) (p : Nat) (len fv v : Value) (n : Nat) (xs : List Value) (w : World) : Prop where
  gr : Grew w0 w
  row : w.ownsRow w0.heap.size 153 1 v n xs
  sp : w.heap[p]? = some (.cells #[len, fv] 155 (0, 0))
  ne : v.ownBlock ≠ some p
section
variable {w0 w w' : World} {p : Nat} {len fv v : Value} {n : Nat} {xs : List Value}
theorem own_lt {base e size : Nat} (h : w.ownsRow base e size v n xs) {g : Nat} (hg : v.ownBlock = some g) : g < w.heap.size ∧ base ≤ g := by
  rcases h.2 with ⟨rfl, _⟩ | ⟨g', cap, cur, rfl, hb, hc, _⟩
  · simp [Value.ownBlock] at hg
  · simp only [Value.ownBlock, Option.some.injEq] at hg
    subst hg
    exact ⟨heap_lt hc, hb⟩
theorem own_same {base e size : Nat} (h : w.ownsRow base e size v n xs) (hb : ∀ b, b < w.heap.size → w'.heap[b]? = w.heap[b]?) : w'.ownsRow base e size v n xs := by
  refine ⟨h.1, h.2.imp id ?_⟩
  rintro ⟨g', cap, cur, rfl, h1, hc, h2⟩
  exact ⟨g', cap, cur, rfl, h1, (hb _ (heap_lt hc)).trans hc, h2⟩
theorem HQ.grew (h : HQ w0 p len fv v n xs w) (g : Grew w w') : HQ w0 p len fv v n xs w' :=
  ⟨h.gr.trans g, own_same h.row g.block, (g.block p (heap_lt h.sp)).trans h.sp, h.ne⟩
theorem HQ.rel (h : HQ w0 p len fv v n xs w) (r : AtRel w w') : HQ w0 p len fv v n xs w' := h.grew ((Grew.refl w).rel r)
theorem HQ.alloc (h : HQ w0 p len fv v n xs w) (ob : Obj) : HQ w0 p len fv v n xs (w.alloc ob) := h.grew ((Grew.refl w).alloc ob)
end

theorem low_noRoom (B : Nat) : Go.Conc.EvL (fun _ => False) B ⟨.mark .noRoom, false, true⟩ :=
  evL_none (by simp) (by simp) (by simp [MemAct.ofEvent, MemAct.low])
/-- An append of one function to the slice of classes. -/
theorem ap_class {w0 w : World} {p M : Nat} {len fv v u : Value} {n : Nat} {xs : List Value} (hM : w.heap[M]? = some (.cells #[u] 153 (0, 0))) (hu : u.oneCell' = true) (hn : n < 100) (hQ : HQ w0 p len fv v n xs w) :
    ∃ v' w', (∀ (o : Oper) (a : Act), o.op = .call { callee := .builtin .append, args := #[.tmp 17, .tmp 20], argTypes := #[148, 148] } → o.type = 148 → a.eval (.tmp 17) = v → a.eval (.tmp 20) = .slice (some ⟨M, 0, none⟩) 1 1 → Yld Tryd.prog o a w (ApE v M) (a.put o.dst v') w') ∧ (∀ es, (∀ e ∈ es, ApE v M e) → D0 w w' es) ∧ HQ w0 p len fv v' (n + 1) (xs ++ [u]) w' := by
  obtain ⟨i4, hi, hz0, hz1, hz2⟩ := info_parts3 info153
  have hcell : ∀ j x, [u][j]? = some x → w.cell? ((⟨M, 0, none⟩ : Addr).add j) = some x := fun j x hx => by
    rw [add0, Nat.zero_add, cell_of_row _ _ _ _ _ _ hM]
    simpa using hx
  have h1 : ∀ x ∈ [u], x.oneCell' = true := by simpa using hu
  have h63 : n + 1 ≤ maxLen := by simp only [maxLen]; omega
  have hb : (n + 1) * 8 ≤ 140737488355328 := by omega
  obtain ⟨v', w', hr, h2, h3, _⟩ := run_append_own (P := Tryd.prog) w w0.heap.size 148 148 153 i4 _ 1 8 Tryd.underlying148 hi hz0 hz1 hz2 rfl (by decide) v n xs hQ.row ⟨M, 0, none⟩ 1 1 [u] rfl hcell h1 h63 hb hQ.gr.size
  have hblk := run_append_blk w w0.heap.size _ 148 _ i4 _ 1 8 Tryd.underlying148 hi hz0 hz1 hz2 v n xs hQ.row ⟨M, 0, none⟩ 1 1 [u] (by decide) rfl hcell h1 h63 hb hr
  refine ⟨v', w', fun o a ho hty hs hx => ⟨fun K hK => uponK_append (.tmp 17) (.tmp 20) _ ho hs hx (by rw [hty]; exact hr) hK, fun ev hev => ?_⟩, fun es h => ⟨h3.size, fun e he => ⟨?_, trivial⟩⟩, ?_, h2, ?_, ?_⟩
  · rw [events_append_op (.tmp 17) (.tmp 20) _ ho hs hx, hty] at hev
    exact events_append_plain w w0.heap.size _ 148 _ i4 _ 1 8 Tryd.underlying148 hi hz0 hz1 hz2 rfl (by decide) v n xs hQ.row ⟨M, 0, none⟩ 1 1 [u] rfl hcell h1 h63 hb (fun y hy => plStore (h1 y hy)) ev hev
  · rcases h e he with ⟨ad, wr, rfl, ⟨rfl, rfl⟩ | h⟩ | ⟨m, rfl, hm⟩
    · exact db_cell (Nat.lt_of_lt_of_le (heap_lt hM) h3.size)
    · exact db_cell (Nat.lt_of_lt_of_le (own_lt hQ.row h.symm).1 h3.size)
    · have : m = .noRoom := hm
      subst this
      exact low_noRoom _
  · have g := hQ.gr
    exact ⟨h3.tape.trans g.tape, h3.os.trans g.os, h3.output.trans g.output, Nat.le_trans g.size h3.size, fun b hb => (h3.block b (Nat.lt_of_lt_of_le hb g.size) (fun e => absurd (own_lt hQ.row e.symm).2 (Nat.not_le.2 hb))).trans (g.block b hb)⟩
  · rw [h3.block p (heap_lt hQ.sp) (fun e => hQ.ne e.symm)]
    exact hQ.sp
  · intro e
    rcases hblk p e with h | h
    · exact hQ.ne h
    · exact absurd h.1 (Nat.not_le.2 (heap_lt hQ.sp))
end Go.Proofs.YtmmjlngbiilagaaDoor

/-
  THE IDENTIFIER's CLASSES: the inner loop.
-/
namespace Go.Proofs.YtmmjlngbiilagaaDoor
open Go Go.Conc Go.RowKit Go.Lib

structure HR (w0 : World) (v : Value) (n : Nat) (xs : List Value) (w : World) : Prop where
  gr : Grew w0 w
  row : w.ownsRow w0.heap.size 153 1 v n xs
structure HB (w0 : World) (g : Nat) (cells : Array Value) (t : TypeId) (w : World) : Prop where
  gr : Grew w0 w
  blk : w.heap[g]? = some (.cells cells t (0, 0))
section
variable {w0 w w' : World} {p g : Nat} {len fv v : Value} {n : Nat} {xs : List Value} {cells : Array Value} {t : TypeId}
theorem HB.grew (h : HB w0 g cells t w) (r : Grew w w') : HB w0 g cells t w' := ⟨h.gr.trans r, (r.block g (heap_lt h.blk)).trans h.blk⟩
theorem HB.rel (h : HB w0 g cells t w) (r : AtRel w w') : HB w0 g cells t w' := h.grew ((Grew.refl w).rel r)
theorem HB.new (h : Grew w0 w) : HB w0 w.heap.size cells t (w.alloc (.cells cells t)) := ⟨h.alloc _, heap_alloc_new w _⟩
theorem HR.grew (h : HR w0 v n xs w) (g : Grew w w') : HR w0 v n xs w' := ⟨h.gr.trans g, own_same h.row g.block⟩
theorem HR.rel (h : HR w0 v n xs w) (r : AtRel w w') : HR w0 v n xs w' := h.grew ((Grew.refl w).rel r)
theorem HR.start (h : Grew w0 w) : HR w0 (.slice none 0 0) 0 [] w := ⟨h, rfl, .inl ⟨rfl, rfl⟩⟩
theorem HQ.hr (h : HQ w0 p len fv v n xs w) : HR w0 v n xs w := ⟨h.gr, h.row⟩
theorem HR.new (h : HR w0 v n xs w) : HQ w0 w.heap.size (.int .i64 0) .nilFunc v n xs (w.alloc (.cells (Value.agg #[.int .i64 0, .nilFunc]).cells 155)) :=
  ⟨h.gr.alloc _, (h.grew ((Grew.refl w).alloc _)).row, heap_alloc_new w _, fun e => absurd (own_lt h.row e).1 (Nat.lt_irrefl _)⟩
theorem HQ.store {len' fv' : Value} (h : HQ w0 p len fv v n xs w) (hp : w0.heap.size ≤ p) : HQ w0 p len' fv' v n xs (w.setRow p #[len', fv']) := by
  have ho : ∀ b, b ≠ p → (w.setRow p #[len', fv']).heap[b]? = w.heap[b]? := fun b hb => setRow_other w p b _ hb
  refine ⟨⟨h.gr.tape, h.gr.os, h.gr.output, by simpa using h.gr.size, fun b hb => (ho b (by omega)).trans (h.gr.block b hb)⟩, ?_, ?_, h.ne⟩
  · refine ⟨h.row.1, h.row.2.imp id ?_⟩
    rintro ⟨g', cap, cur, rfl, h1, hc, h2⟩
    exact ⟨g', cap, cur, rfl, h1, (ho g' (fun e => h.ne (by simp [Value.ownBlock, e]))).trans hc, h2⟩
  · exact setRow_heap w p _ _ _ _ h.sp
end

noncomputable def bodyCl : Code := Tryd.f102.body.getD .skip
noncomputable def innerCl : Code := match bodyCl with | .seq _ (.seq _ (.seq (.seq _ (.block _ (.loop (.seq _ (.seq _ (.seq (.block _ (.seq _ (.seq _ (.block _ (.loop c))))) _)))))) _)) => c | _ => .skip

section
variable {o : Oper} {a : Act} {w : World}
theorem yld_add {x y : Operand} {p q : Int} (ho : o.op = .binOp .add 3 x y 3) (hx : a.eval x = .int .i64 p) (hy : a.eval y = .int .i64 q) : Yld Tryd.prog o a w NoE (a.put o.dst (.int .i64 (IntKind.i64.wrap (p + q)))) w := by
  refine yld_none ?_ ?_
  · unfold execOp
    simp only [ho, hx, hy]
    simp [go_sem]
  · unfold execOp
    simp only [ho, hx, hy]
    simp [go_sem]
theorem wrap_small {j : Nat} (h : j < 1000) : IntKind.i64.wrap ((j : Int) + 1) = ((j + 1 : Nat) : Int) := by
  rw [IntKind.wrap_i64]; omega
end

section
variable {main : Bool}
set_option maxRecDepth 100000 in
set_option maxHeartbeats 4000000 in
theorem class_round : ∃ K, ∀ {Q : Exit → Act → World → Prop} {w0 : World} {f : FuncId} {len : Value} {p N : Nat} {v0 v1 v2 v4 v6 v7 v8 v9 v10 v11 v12 v13 v23 v24 : Value} {n m j : Nat} {v : Value} {xs : List Value} {x16 x17 x18 x19 x20 x21 x22 : Value} {w : World}, j < N → N < 100 → m < 90 → HQ w0 p len (.func (.func f) #[] #[]) v m xs w →
    (∀ (v' : Value) (y16 y17 y18 y19 y20 y21 y22 : Value) (w' : World), HQ w0 p len (.func (.func f) #[] #[]) v' (m + 1) (xs ++ [.func (.func f) #[] #[]]) w' → LoopC Tryd.prog main AtRel D0 102 innerCl n Q ⟨#[v0, v1, v2, v', v4, .pointer (some ⟨p, 0, none⟩), v6, v7, v8, v9, v10, v11, v12, v13, .int .i64 N, .int .i64 ((j + 1 : Nat) : Int), y16, y17, y18, y19, y20, y21, y22, v23, v24], []⟩ w') →
    LoopC Tryd.prog main AtRel D0 102 innerCl (n + 1 + K) Q ⟨#[v0, v1, v2, v, v4, .pointer (some ⟨p, 0, none⟩), v6, v7, v8, v9, v10, v11, v12, v13, .int .i64 N, .int .i64 (j : Int), x16, x17, x18, x19, x20, x21, x22, v23, v24], []⟩ w := by
  have T := T0
  co_apply Exists.intro
  intro Q w0 f len p N v0 v1 v2 v4 v6 v7 v8 v9 v10 v11 v12 v13 v23 v24 n m j v xs x16 x17 x18 x19 x20 x21 x22 w hj hN hm hF hnext
  co_apply loopC_round T
  generalize hQ : (fun a' w' => LoopC Tryd.prog main AtRel D0 102 innerCl n Q a' w') = Nx
  simp only [innerCl, bodyCl, Tryd.f102, Option.getD_some]
  co_apply wpC_seq T
  co_reg T
  co_apply opsC_yld rfl (by rfl)
  intro w₁ hR
  replace hF := HQ.rel hF hR
  clear hR
  refine ⟨_, _, _, yld_lss rfl rfl rfl, fun es h => ?_, ?_⟩
  focus exact T_none T h
  rw [decide_eq_true (by omega : (j : Int) < (N : Int))]
  walk_nrm
  co_apply opsC_nil T
  co_then
  co_apply wpC_seq T
  co_apply wpC_cond T (t := true)
  focus (exact rfl)
  simp only [if_true]
  co_apply wpC_skip T
  co_then
  co_apply wpC_seq T
  co_apply wpC_block T
  co_reg T
  co_op HQ.rel hF (co_quiet T)
  co_op HQ.rel hF (co_quiet T)
  co_apply opsC_yld rfl (by rfl)
  intro w₁ hR
  replace hF := HQ.rel hF hR
  clear hR
  refine ⟨_, _, _, yld_load1 (ad := ⟨p, 1, none⟩) (v := .func (.func f) #[] #[]) rfl rfl (by rw [cell_of_row _ _ _ _ _ _ hF.sp]; rfl) (Tryd.isAgg153 _) (evAgg _), db_read (heap_lt hF.sp) (fun _ _ => trivial), ?_⟩
  walk_nrm
  co_apply opsC_yld rfl (by rfl)
  intro w₁ hR
  replace hF := HQ.rel hF hR
  clear hR
  obtain ⟨ie, hie, hiz, his, hib⟩ := info_parts3 info153
  refine ⟨_, _, _, yld_buildSlice (cells := #[.func (.func f) #[] #[]]) rfl Tryd.underlying148 hie hiz (by rw [his]; decide) (by rw [his]; decide) (by rw [his]; refine (congrArg (Instr.fill _ _) ?_).trans (fill153 f); simp [Act.eval]), db_new _, ?_⟩
  replace hF := hF.alloc (.cells #[.func (.func f) #[] #[]] 153)
  have hM := heap_alloc_new w₁ (.cells #[.func (.func f) #[] #[]] 153)
  clear his hiz hie hib ie
  walk_nrm
  generalize hw : w₁.alloc _ = w₂ at hF hM ⊢
  generalize w₁.heap.size = M at hM ⊢
  clear hw w₁
  co_apply opsC_yld rfl (by rfl)
  intro w₁ hR
  replace hF := HQ.rel hF hR
  rw [← atRel_heap hR] at hM
  clear hR w₂
  obtain ⟨v', w', hy, hd, hF'⟩ := ap_class (u := .func (.func f) #[] #[]) hM rfl (by omega) hF
  refine ⟨_, _, _, hy _ _ rfl rfl rfl rfl, hd, ?_⟩
  replace hF := hF'
  clear hF' hy hd hM w₁
  walk_nrm
  co_op HQ.rel hF (co_quiet T)
  co_apply opsC_nil T
  co_then
  co_reg T
  co_apply opsC_yld rfl (by rfl)
  intro w₁ hR
  replace hF := HQ.rel hF hR
  clear hR
  refine ⟨_, _, _, yld_add rfl rfl rfl, fun es h => ?_, ?_⟩
  focus exact T_none T h
  rw [wrap_small (by omega)]
  walk_nrm
  co_op HQ.rel hF (co_quiet T)
  co_apply opsC_nil T
  co_then
  rw [← hQ]
  exact hnext _ _ _ _ _ _ _ _ _ hF

set_option maxRecDepth 100000 in
theorem class_exit : ∃ K, ∀ {Q : Exit → Act → World → Prop} {w0 : World} {f : FuncId} {len : Value} {p N : Nat} {v0 v1 v2 v4 v6 v7 v8 v9 v10 v11 v12 v13 v23 v24 : Value} {m : Nat} {v : Value} {xs : List Value} {x16 x17 x18 x19 x20 x21 x22 : Value} {w : World}, HQ w0 p len (.func (.func f) #[] #[]) v m xs w →
    (∀ (y16 y17 y18 y19 y20 y21 y22 : Value) (w' : World), HQ w0 p len (.func (.func f) #[] #[]) v m xs w' → Q (.exit 2) ⟨#[v0, v1, v2, v, v4, .pointer (some ⟨p, 0, none⟩), v6, v7, v8, v9, v10, v11, v12, v13, .int .i64 N, .int .i64 (N : Int), y16, y17, y18, y19, y20, y21, y22, v23, v24], []⟩ w') →
    LoopC Tryd.prog main AtRel D0 102 innerCl (0 + 1 + K) Q ⟨#[v0, v1, v2, v, v4, .pointer (some ⟨p, 0, none⟩), v6, v7, v8, v9, v10, v11, v12, v13, .int .i64 N, .int .i64 (N : Int), x16, x17, x18, x19, x20, x21, x22, v23, v24], []⟩ w := by
  have T := T0
  co_apply Exists.intro
  intro Q w0 f len p N v0 v1 v2 v4 v6 v7 v8 v9 v10 v11 v12 v13 v23 v24 m v xs x16 x17 x18 x19 x20 x21 x22 w hF hnext
  co_apply loopC_round T
  generalize hQ : (fun a' w' => LoopC Tryd.prog main AtRel D0 102 innerCl 0 Q a' w') = Nx
  simp only [innerCl, bodyCl, Tryd.f102, Option.getD_some]
  co_apply wpC_seq T
  co_reg T
  co_apply opsC_yld rfl (by rfl)
  intro w₁ hR
  replace hF := HQ.rel hF hR
  clear hR
  refine ⟨_, _, _, yld_lss rfl rfl rfl, fun es h => ?_, ?_⟩
  focus exact T_none T h
  rw [decide_eq_false (by omega : ¬ (N : Int) < (N : Int))]
  walk_nrm
  co_apply opsC_nil T
  co_then
  co_apply wpC_seq T (n₂ := 0)
  co_apply wpC_cond T (t := false)
  focus (exact rfl)
  simp only [Bool.false_eq_true, if_false]
  co_apply wpC_exit T
  co_then
  exact hnext _ _ _ _ _ _ _ _ hF

theorem class_loop (k : Nat) : ∃ n, ∀ {Q : Exit → Act → World → Prop} {w0 : World} {f : FuncId} {len : Value} {p N : Nat} {v0 v1 v2 v4 v6 v7 v8 v9 v10 v11 v12 v13 v23 v24 : Value} {m j : Nat} {v : Value} {xs : List Value} {x16 x17 x18 x19 x20 x21 x22 : Value} {w : World}, j + k = N → N < 100 → m + k < 90 → HQ w0 p len (.func (.func f) #[] #[]) v m xs w →
    (∀ (v' : Value) (y16 y17 y18 y19 y20 y21 y22 : Value) (w' : World), HQ w0 p len (.func (.func f) #[] #[]) v' (m + k) (xs ++ List.replicate k (.func (.func f) #[] #[])) w' → Q (.exit 2) ⟨#[v0, v1, v2, v', v4, .pointer (some ⟨p, 0, none⟩), v6, v7, v8, v9, v10, v11, v12, v13, .int .i64 N, .int .i64 (N : Int), y16, y17, y18, y19, y20, y21, y22, v23, v24], []⟩ w') →
    LoopC Tryd.prog main AtRel D0 102 innerCl n Q ⟨#[v0, v1, v2, v, v4, .pointer (some ⟨p, 0, none⟩), v6, v7, v8, v9, v10, v11, v12, v13, .int .i64 N, .int .i64 (j : Int), x16, x17, x18, x19, x20, x21, x22, v23, v24], []⟩ w := by
  induction k with
  | zero =>
    obtain ⟨K, h⟩ := class_exit (main := main)
    refine ⟨0 + 1 + K, fun {Q w0 f len p N} {v0 v1 v2 v4 v6 v7 v8 v9 v10 v11 v12 v13 v23 v24} {m j v xs} {x16 x17 x18 x19 x20 x21 x22} {w} hj _ _ hF hn => ?_⟩
    obtain rfl : j = N := by omega
    exact h hF fun _ _ _ _ _ _ _ w' h' => hn _ _ _ _ _ _ _ _ w' (by simpa using h')
  | succ k ih =>
    obtain ⟨K, h⟩ := class_round (main := main)
    obtain ⟨n, hi⟩ := ih
    refine ⟨n + 1 + K, fun {Q w0 f len p N} {v0 v1 v2 v4 v6 v7 v8 v9 v10 v11 v12 v13 v23 v24} {m j v xs} {x16 x17 x18 x19 x20 x21 x22} {w} hj hN hm hF hn => ?_⟩
    refine h (by omega) hN (by omega) hF fun v' _ _ _ _ _ _ _ w' hF' => ?_
    refine hi (by omega) hN (by omega) hF' fun v2 _ _ _ _ _ _ _ w2 hF2 => hn _ _ _ _ _ _ _ _ _ ?_
    have e : xs ++ [Value.func (.func f) #[] #[]] ++ List.replicate k (.func (.func f) #[] #[]) = xs ++ List.replicate (k + 1) (.func (.func f) #[] #[]) := by simp [List.replicate_succ]
    rw [e, show m + 1 + k = m + (k + 1) by omega] at hF2
    exact hF2
end
end Go.Proofs.YtmmjlngbiilagaaDoor
