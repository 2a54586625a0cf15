/-
  THE IDENTIFIER's CLASSES: the walk.
-/
import Derived.Test.YtmmjlngbiilagaaDoorT12

namespace Go.Proofs.YtmmjlngbiilagaaDoor
open Go Go.Conc Go.RowKit Go.Lib

section
variable {main : Bool}
set_option maxRecDepth 100000 in
set_option maxHeartbeats 16000000 in
theorem classes_c : ∃ n, ∀ (sb so cap : Nat) (w : World), KindsAt sb so cap w → CallsC Tryd.prog main AtRel D0 102 #[kindV sb so cap] n w fun v w' => HR w v 8 [letterV, alnumV, alnumV, alnumV, alnumV, alnumV, alnumV, alnumV] w' := by
  have T := T0
  obtain ⟨n1, hl1⟩ := class_loop (main := main) 1
  obtain ⟨n7, hl7⟩ := class_loop (main := main) 7
  co_apply Exists.intro
  intro sb so cap w0 hk
  co_apply callsC_of_wpC Tryd.func102 (by rfl) rfl
  have hF : Grew w0 w0 := .refl w0
  simp only [Tryd.ntmps102, List.size_toArray, List.length_cons, List.length_nil, Nat.reduceAdd, Nat.reduceSub, Array.replicate_succ, Array.replicate_zero, List.push_toArray, List.append_toArray, List.nil_append, List.cons_append]
  co_apply wpC_seq T
  co_reg T
  co_apply opsC_yld rfl (by rfl)
  intro w₁ hR
  replace hF := Grew.rel hF hR
  clear hR
  refine ⟨_, _, _, yld_box rfl, db_new _, ?_⟩
  replace hF := HB.new (cells := (kindV sb so cap).cells) (t := 145) hF
  walk_nrm
  simp only [kindV, Act.eval, Value.cells] at hF ⊢
  generalize hw : w₁.alloc _ = w₂ at hF ⊢
  generalize w₁.heap.size = kb at hF ⊢
  clear hw w₁
  co_op HB.rel hF (co_quiet T)
  co_apply opsC_nil T
  co_then
  co_apply wpC_seq T
  co_reg T
  co_op HB.rel hF (co_quiet T)
  co_apply opsC_nil T
  co_then
  co_apply wpC_seq T
  co_apply wpC_seq T
  co_reg T
  co_op HB.rel hF (co_quiet T)
  co_apply opsC_yld rfl (by rfl)
  intro w₁ hR
  replace hF := HB.rel hF hR
  clear hR
  refine ⟨_, _, _, yld_load1 (ad := ⟨kb, 1, none⟩) (v := .slice (some ⟨sb, so, none⟩) 2 cap) rfl rfl (by rw [cell_of_row _ _ _ _ _ _ hF.blk]; rfl) (Tryd.isAgg142 _) (evAgg _), db_read (heap_lt hF.blk) (fun _ _ => trivial), ?_⟩
  walk_nrm
  co_op HB.rel hF (co_quiet T)
  co_op HB.rel hF (co_quiet T)
  co_apply opsC_nil T
  co_then
  replace hF := HR.start hF.gr
  co_apply wpC_block T
  co_apply wpC_loop_in T
  co_apply loopC_round T
  co_apply wpC_seq T
  co_reg T
  co_op HR.rel hF (co_quiet T)
  co_apply opsC_nil T
  co_then
  co_apply wpC_seq T
  co_apply wpC_cond T (t := true)
  focus (exact rfl)
  simp only [if_true]
  co_apply wpC_skip T
  co_then
  co_apply wpC_seq T
  co_apply wpC_block T
  co_apply wpC_seq T
  co_reg T
  co_apply opsC_yld rfl (by rfl)
  intro w₁ hR
  replace hF := HR.rel hF hR
  clear hR
  refine ⟨_, _, _, yld_index142 (k := 0) (by decide) rfl rfl rfl, fun es h => ?_, ?_⟩
  focus exact T_none T h
  walk_nrm
  co_apply opsC_yld rfl (by rfl)
  intro w₁ hR
  replace hF := HR.rel hF hR
  clear hR
  have hsp : w₁.rangeAt sb (so + 0 * 2) [.int .i64 1, (.func (.func 119) #[] #[])] := fun j v hv => by
    have h := (hk.grew hF.gr).spans (0 * 2 + j) v
    rw [← Nat.add_assoc] at h
    refine h ?_
    rcases j with _ | _ | j <;> simp_all [letterV, alnumV]
  refine ⟨_, _, _, yld_load rfl rfl hsp (Tryd.isAgg155 _) (Tryd.sizeOf155 _) (evAgg _) (evSize _), db_read (World.block_lt_of_cell? _ _ (hsp 0 _ rfl)) (fun _ _ => trivial), ?_⟩
  clear hsp
  walk_nrm
  co_apply opsC_yld rfl (by rfl)
  intro w₁ hR
  replace hF := HR.rel hF hR
  clear hR
  refine ⟨_, _, _, yld_alloc rfl (Tryd.zeroValue155 _) (evZero _), db_new _, ?_⟩
  have hp := hF.gr.size
  replace hF := hF.new
  walk_nrm
  generalize hw : w₁.alloc _ = w₂ at hF ⊢
  generalize w₁.heap.size = p at hF hp ⊢
  clear hw w₁
  co_apply opsC_yld rfl (by rfl)
  intro w₁ hR
  replace hF := HQ.rel hF hR
  clear hR
  refine ⟨_, _, _, yld_store rfl rfl rfl hF.sp (Tryd.sizeOf155 _) (evSize _) rfl (by simp [Act.eval, Value.cells, Value.oneCell']), db_row (heap_lt hF.sp) (fun _ _ _ => trivial) _, ?_⟩
  replace hF := HQ.store (len' := .int .i64 1) (fv' := (.func (.func 119) #[] #[])) hF hp
  walk_nrm
  simp only [Value.cells] at hF ⊢
  generalize w₁.setRow _ _ = w₂ at hF ⊢
  clear w₁ hp
  co_apply opsC_nil T
  co_then
  co_apply wpC_seq T
  co_reg T
  co_op HQ.rel hF (co_quiet T)
  co_apply opsC_yld rfl (by rfl)
  intro w₁ hR
  replace hF := HQ.rel hF hR
  clear hR
  refine ⟨_, _, _, yld_load1 (ad := ⟨p, 0, none⟩) (v := .int .i64 1) rfl rfl (by rw [cell_of_row _ _ _ _ _ _ hF.sp]; rfl) (Tryd.isAgg3 _) (evAgg _), db_read (heap_lt hF.sp) (fun _ _ => trivial), ?_⟩
  walk_nrm
  co_op HQ.rel hF (co_quiet T)
  co_apply opsC_nil T
  co_then
  co_apply wpC_block T
  co_apply wpC_loop_in T
  co_apply hl1 (N := 1) (j := 0) (by decide) (by decide) (by decide) hF
  intro v _ _ _ _ _ _ _ w' hF'
  replace hF := hF'.hr
  clear hF'
  co_then
  co_reg T
  co_op HR.rel hF (co_quiet T)
  co_op HR.rel hF (co_quiet T)
  co_apply opsC_nil T
  co_then
  co_apply loopC_round T
  co_apply wpC_seq T
  co_reg T
  co_op HR.rel hF (co_quiet T)
  co_apply opsC_nil T
  co_then
  co_apply wpC_seq T
  co_apply wpC_cond T (t := true)
  focus (exact rfl)
  simp only [if_true]
  co_apply wpC_skip T
  co_then
  co_apply wpC_seq T
  co_apply wpC_block T
  co_apply wpC_seq T
  co_reg T
  co_apply opsC_yld rfl (by rfl)
  intro w₁ hR
  replace hF := HR.rel hF hR
  clear hR
  refine ⟨_, _, _, yld_index142 (k := 1) (by decide) rfl rfl rfl, fun es h => ?_, ?_⟩
  focus exact T_none T h
  walk_nrm
  co_apply opsC_yld rfl (by rfl)
  intro w₁ hR
  replace hF := HR.rel hF hR
  clear hR
  have hsp : w₁.rangeAt sb (so + 1 * 2) [.int .i64 7, (.func (.func 120) #[] #[])] := fun j v hv => by
    have h := (hk.grew hF.gr).spans (1 * 2 + j) v
    rw [← Nat.add_assoc] at h
    refine h ?_
    rcases j with _ | _ | j <;> simp_all [letterV, alnumV]
  refine ⟨_, _, _, yld_load rfl rfl hsp (Tryd.isAgg155 _) (Tryd.sizeOf155 _) (evAgg _) (evSize _), db_read (World.block_lt_of_cell? _ _ (hsp 0 _ rfl)) (fun _ _ => trivial), ?_⟩
  clear hsp
  walk_nrm
  co_apply opsC_yld rfl (by rfl)
  intro w₁ hR
  replace hF := HR.rel hF hR
  clear hR
  refine ⟨_, _, _, yld_alloc rfl (Tryd.zeroValue155 _) (evZero _), db_new _, ?_⟩
  have hp := hF.gr.size
  replace hF := hF.new
  walk_nrm
  generalize hw : w₁.alloc _ = w₂ at hF ⊢
  generalize w₁.heap.size = p at hF hp ⊢
  clear hw w₁
  co_apply opsC_yld rfl (by rfl)
  intro w₁ hR
  replace hF := HQ.rel hF hR
  clear hR
  refine ⟨_, _, _, yld_store rfl rfl rfl hF.sp (Tryd.sizeOf155 _) (evSize _) rfl (by simp [Act.eval, Value.cells, Value.oneCell']), db_row (heap_lt hF.sp) (fun _ _ _ => trivial) _, ?_⟩
  replace hF := HQ.store (len' := .int .i64 7) (fv' := (.func (.func 120) #[] #[])) hF hp
  walk_nrm
  simp only [Value.cells] at hF ⊢
  generalize w₁.setRow _ _ = w₂ at hF ⊢
  clear w₁ hp
  co_apply opsC_nil T
  co_then
  co_apply wpC_seq T
  co_reg T
  co_op HQ.rel hF (co_quiet T)
  co_apply opsC_yld rfl (by rfl)
  intro w₁ hR
  replace hF := HQ.rel hF hR
  clear hR
  refine ⟨_, _, _, yld_load1 (ad := ⟨p, 0, none⟩) (v := .int .i64 7) rfl rfl (by rw [cell_of_row _ _ _ _ _ _ hF.sp]; rfl) (Tryd.isAgg3 _) (evAgg _), db_read (heap_lt hF.sp) (fun _ _ => trivial), ?_⟩
  walk_nrm
  co_op HQ.rel hF (co_quiet T)
  co_apply opsC_nil T
  co_then
  co_apply wpC_block T
  co_apply wpC_loop_in T
  co_apply hl7 (N := 7) (j := 0) (by decide) (by decide) (by decide) hF
  intro v _ _ _ _ _ _ _ w' hF'
  replace hF := hF'.hr
  clear hF'
  co_then
  co_reg T
  co_op HR.rel hF (co_quiet T)
  co_op HR.rel hF (co_quiet T)
  co_apply opsC_nil T
  co_then
  co_apply loopC_round T (n := 0)
  co_apply wpC_seq T
  co_reg T
  co_op HR.rel hF (co_quiet T)
  co_apply opsC_nil T
  co_then
  co_apply wpC_seq T (n₂ := 0)
  co_apply wpC_cond T (t := false)
  focus (exact rfl)
  simp only [Bool.false_eq_true, if_false]
  co_apply wpC_exit T
  co_then
  co_apply wpC_seq T
  co_reg T
  co_op HR.rel hF (co_quiet T)
  co_op HR.rel hF (co_quiet T)
  co_apply opsC_nil T
  co_then
  co_apply wpC_ret T
  have e : [] ++ List.replicate 1 (Value.func (.func 119) #[] #[]) ++ List.replicate 7 (Value.func (.func 120) #[] #[]) = [letterV, alnumV, alnumV, alnumV, alnumV, alnumV, alnumV, alnumV] := by simp [List.replicate, letterV, alnumV]
  rw [e] at hF
  refine ⟨rfl, _, resultsC_tmp (by rfl) _, ?_⟩
  exact hF
end
end Go.Proofs.YtmmjlngbiilagaaDoor

/-
  THE IDENTIFIER's PREFIX: the loop's rounds.
-/
namespace Go.Proofs.YtmmjlngbiilagaaDoor
open Go Go.Conc Go.RowKit Go.Lib

def clsL : List Value := [letterV, alnumV, alnumV, alnumV, alnumV, alnumV, alnumV, alnumV]
/-- The classes are there; what was there stands. -/
structure HP (w0 : World) (g : Nat) (w : World) : Prop where
  gr : Grew w0 w
  cls : w.rangeAt g 0 clsL
section
variable {w0 w w' : World} {g : Nat}
theorem HP.grew (h : HP w0 g w) (r : Grew w w') : HP w0 g w' := ⟨h.gr.trans r, r.range h.cls⟩
theorem HP.rel (h : HP w0 g w) (r : AtRel w w') : HP w0 g w' := h.grew ((Grew.refl w).rel r)
theorem HP.trans (h : HP w0 g w) (r : Grew w w') : HP w0 g w' := h.grew r
end
section
variable {o : Oper} {a : Act} {w : World}
theorem yld_index148 {x y : Operand} {b off n cap k : Nat} (hk : k < n) (ho : o.op = .indexAddr 148 x y) (hx : a.eval x = .slice (some ⟨b, off, none⟩) n cap) (hy : a.eval y = .int .i64 k) :
    Yld Tryd.prog o a w NoE (a.put o.dst (.pointer (some ⟨b, off + k * 1, none⟩))) w := by
  have hd : (⟨b, off, none⟩ : Addr).add (k * 1) = ⟨b, off + k * 1, none⟩ := by rw [add0]
  have h0 : (0 : Int) ≤ (k : Int) ∧ (k : Int) < (n : Int) := by omega
  refine yld_none ?_ ?_
  · unfold execOp
    simp only [ho, hx, hy]
    simp [Instr.indexAt, asIntOf, Tryd.runUnderlying148, Tryd.sizeOf153, h0, hk, add0]
  · unfold execOp
    simp only [ho, hx, hy]
    simp [Instr.indexAt, asIntOf, Tryd.runUnderlying148, Tryd.sizeOf153, h0, hk, evUnd, evSize]
theorem yld_lenStr {t : Tmp} {s : ByteArray} (ho : o.op = .call { callee := .builtin .len, args := #[.tmp t], argTypes := #[9] }) (hx : a.eval (.tmp t) = .string s) : Yld Tryd.prog o a w NoE (a.put o.dst (.int .i64 s.size)) w := by
  simp only [Act.eval, Array.getD_eq_getD_getElem?] at hx
  refine yld_none ?_ ?_
  · unfold execOp
    simp [ho, go_sem, hx]
  · unfold execOp
    simp [ho, go_sem, hx, Builtin.len_, evUnd, Tryd.runUnderlying9]
theorem cls_at {j : Nat} (h : j < 8) : clsL[j]? = some (if j = 0 then letterV else alnumV) := by
  rcases j with _ | _ | _ | _ | _ | _ | _ | _ | j <;> first | rfl | omega
end

noncomputable def bodyPre : Code := Tryd.f101.body.getD .skip
noncomputable def loopPre : Code := match bodyPre with | .seq _ (.seq (.seq _ (.block _ (.loop c))) _) => c | _ => .skip
section
variable {main : Bool}
set_option maxRecDepth 100000 in
set_option maxHeartbeats 8000000 in
theorem pre_skip : ∃ K, ∀ {Q : Exit → Act → World → Prop} {w0 : World} {g cap : Nat} {s : ByteArray} {v1 v3 v4 v5 v6 v7 v29 v31 v32 v33 v34 v35 v36 v37 v38 v39 v40 v41 v42 v43 v44 v45 : Value} {n j : Nat} {x8 x9 x13 x14 x15 x16 x17 x18 x19 x20 x21 x22 x23 x24 x25 x26 x27 x28 x30 : Value} {w : World}, 5 ≤ j → j < 8 → HP w0 g w → s.size = 5 →
    (∀ (y8 y9 y13 y14 y15 y16 y17 y18 y19 y20 y21 y22 y23 y24 y25 y26 y27 y28 y30 : Value) (w' : World), HP w0 g w' → LoopC Tryd.prog main AtRel D0 101 loopPre n Q ⟨(.slice (some ⟨g, 0, none⟩) 8 cap :: v1 :: .string s :: v3 :: v4 :: v5 :: v6 :: v7 :: y8 :: y9 :: .slice (some ⟨g, 0, none⟩) 8 cap :: .int .i64 8 :: .int .i64 ((j + 1 : Nat) : Int) :: y13 :: y14 :: y15 :: y16 :: y17 :: y18 :: y19 :: y20 :: y21 :: y22 :: y23 :: y24 :: y25 :: y26 :: y27 :: y28 :: v29 :: y30 :: v31 :: v32 :: v33 :: v34 :: v35 :: v36 :: v37 :: v38 :: v39 :: v40 :: v41 :: v42 :: v43 :: v44 :: v45 :: []).toArray, []⟩ w') →
    LoopC Tryd.prog main AtRel D0 101 loopPre (n + 1 + K) Q ⟨(.slice (some ⟨g, 0, none⟩) 8 cap :: v1 :: .string s :: v3 :: v4 :: v5 :: v6 :: v7 :: x8 :: x9 :: .slice (some ⟨g, 0, none⟩) 8 cap :: .int .i64 8 :: .int .i64 (j : Int) :: x13 :: x14 :: x15 :: x16 :: x17 :: x18 :: x19 :: x20 :: x21 :: x22 :: x23 :: x24 :: x25 :: x26 :: x27 :: x28 :: v29 :: x30 :: v31 :: v32 :: v33 :: v34 :: v35 :: v36 :: v37 :: v38 :: v39 :: v40 :: v41 :: v42 :: v43 :: v44 :: v45 :: []).toArray, []⟩ w := by
  have T := T0
  co_apply Exists.intro
  intro Q w0 g cap s v1 v3 v4 v5 v6 v7 v29 v31 v32 v33 v34 v35 v36 v37 v38 v39 v40 v41 v42 v43 v44 v45 n j x8 x9 x13 x14 x15 x16 x17 x18 x19 x20 x21 x22 x23 x24 x25 x26 x27 x28 x30 w hj5 hj8 hF hs hnext
  co_apply loopC_round T
  generalize hQ : (fun a' w' => LoopC Tryd.prog main AtRel D0 101 loopPre n Q a' w') = Nx
  simp only [loopPre, bodyPre, Tryd.f101, Option.getD_some]
  co_apply wpC_seq T
  co_reg T
  co_apply opsC_yld rfl (by rfl)
  intro w₁ hR
  replace hF := HP.rel hF hR
  clear hR
  refine ⟨_, _, _, yld_lss rfl rfl rfl, fun es h => ?_, ?_⟩
  focus exact T_none T h
  rw [decide_eq_true (by omega : (j : Int) < 8)]
  walk_nrm
  co_apply opsC_nil T
  co_then
  co_apply wpC_seq T
  co_apply wpC_cond T (t := true)
  focus (exact rfl)
  simp only [if_true]
  co_apply wpC_skip T
  co_then
  co_apply wpC_seq T
  co_apply wpC_block T
  co_apply wpC_seq T
  co_reg T
  co_op HP.rel hF (co_quiet T)
  co_apply opsC_yld rfl (by rfl)
  intro w₁ hR
  replace hF := HP.rel hF hR
  clear hR
  refine ⟨_, _, _, yld_index148 (k := j) (by omega) rfl rfl rfl, fun es h => ?_, ?_⟩
  focus exact T_none T h
  walk_nrm
  co_apply opsC_yld rfl (by rfl)
  intro w₁ hR
  replace hF := HP.rel hF hR
  clear hR
  refine ⟨_, _, _, yld_load1 (ad := ⟨g, j, none⟩) (v := if j = 0 then letterV else alnumV) rfl (by simp [Act.eval]) (by have h := hF.cls j _ (cls_at (by omega)); rwa [Nat.zero_add] at h) (Tryd.isAgg153 _) (evAgg _), db_read (World.block_lt_of_cell? _ ⟨g, 0, none⟩ (by simpa using hF.cls 0 _ rfl)) (fun _ _ => trivial), ?_⟩
  walk_nrm
  co_op HP.rel hF (co_quiet T)
  co_op HP.rel hF (co_quiet T)
  co_apply opsC_nil T
  co_then
  co_apply wpC_seq T
  co_reg T
  co_op HP.rel hF (co_quiet T)
  co_op HP.rel hF (co_quiet T)
  co_apply opsC_yld rfl (by rfl)
  intro w₁ hR
  replace hF := HP.rel hF hR
  clear hR
  refine ⟨_, _, _, yld_lenStr rfl rfl, fun es h => ?_, ?_⟩
  focus exact T_none T h
  rw [hs]
  walk_nrm
  co_apply opsC_yld rfl (by rfl)
  intro w₁ hR
  replace hF := HP.rel hF hR
  clear hR
  refine ⟨_, _, _, yld_lss rfl rfl rfl, fun es h => ?_, ?_⟩
  focus exact T_none T h
  rw [decide_eq_false (by omega : ¬ (j : Int) < ((5 : Nat) : Int))]
  walk_nrm
  co_op HP.rel hF (co_quiet T)
  co_apply opsC_unwanted T rfl (by rfl)
  walk_nrm
  co_apply opsC_unwanted T rfl (by rfl)
  walk_nrm
  co_apply opsC_unwanted T rfl (by rfl)
  walk_nrm
  co_apply opsC_unwanted T rfl (by rfl)
  walk_nrm
  co_apply opsC_unwanted T rfl (by rfl)
  walk_nrm
  co_apply opsC_unwanted T rfl (by rfl)
  walk_nrm
  co_op HP.rel hF (co_quiet T)
  co_apply opsC_nil T
  co_then
  co_apply wpC_cond T (t := false)
  focus (exact rfl)
  simp only [Bool.false_eq_true, if_false]
  co_apply wpC_skip T
  co_then
  co_reg T
  co_apply opsC_yld rfl (by rfl)
  intro w₁ hR
  replace hF := HP.rel hF hR
  clear hR
  refine ⟨_, _, _, yld_add rfl rfl rfl, fun es h => ?_, ?_⟩
  focus exact T_none T h
  rw [wrap_small (by omega)]
  walk_nrm
  co_op HP.rel hF (co_quiet T)
  co_apply opsC_nil T
  co_then
  rw [← hQ]
  exact hnext _ _ _ _ _ _ _ _ _ _ _ _ _ _ _ _ _ _ _ _ hF
set_option maxRecDepth 100000 in
set_option maxHeartbeats 8000000 in
theorem pre_round (nf : Nat) (f : FuncId) : ∃ K, ∀ {Q : Exit → Act → World → Prop} {w0 : World} {g cap : Nat} {s : ByteArray} {v1 v3 v4 v5 v6 v7 v29 v31 v32 v33 v34 v35 v36 v37 v38 v39 v40 v41 v42 v43 v44 v45 : Value} {n j : Nat} {x8 x9 x13 x14 x15 x16 x17 x18 x19 x20 x21 x22 x23 x24 x25 x26 x27 x28 x30 : Value} {w : World}, ∀ (b : UInt8), j < 5 → s[j]? = some b → (if j = 0 then letterV else alnumV) = .func (.func f) #[] #[] → (∀ w, CallsC Tryd.prog main AtRel D0 f #[.int .u8 b.toNat] nf w fun v w' => v = .bool true ∧ Grew w w') → HP w0 g w → s.size = 5 →
    (∀ (y8 y9 y13 y14 y15 y16 y17 y18 y19 y20 y21 y22 y23 y24 y25 y26 y27 y28 y30 : Value) (w' : World), HP w0 g w' → LoopC Tryd.prog main AtRel D0 101 loopPre n Q ⟨(.slice (some ⟨g, 0, none⟩) 8 cap :: v1 :: .string s :: v3 :: v4 :: v5 :: v6 :: v7 :: y8 :: y9 :: .slice (some ⟨g, 0, none⟩) 8 cap :: .int .i64 8 :: .int .i64 ((j + 1 : Nat) : Int) :: y13 :: y14 :: y15 :: y16 :: y17 :: y18 :: y19 :: y20 :: y21 :: y22 :: y23 :: y24 :: y25 :: y26 :: y27 :: y28 :: v29 :: y30 :: v31 :: v32 :: v33 :: v34 :: v35 :: v36 :: v37 :: v38 :: v39 :: v40 :: v41 :: v42 :: v43 :: v44 :: v45 :: []).toArray, []⟩ w') →
    LoopC Tryd.prog main AtRel D0 101 loopPre (n + 1 + K) Q ⟨(.slice (some ⟨g, 0, none⟩) 8 cap :: v1 :: .string s :: v3 :: v4 :: v5 :: v6 :: v7 :: x8 :: x9 :: .slice (some ⟨g, 0, none⟩) 8 cap :: .int .i64 8 :: .int .i64 (j : Int) :: x13 :: x14 :: x15 :: x16 :: x17 :: x18 :: x19 :: x20 :: x21 :: x22 :: x23 :: x24 :: x25 :: x26 :: x27 :: x28 :: v29 :: x30 :: v31 :: v32 :: v33 :: v34 :: v35 :: v36 :: v37 :: v38 :: v39 :: v40 :: v41 :: v42 :: v43 :: v44 :: v45 :: []).toArray, []⟩ w := by
  have T := T0
  co_apply Exists.intro
  intro Q w0 g cap s v1 v3 v4 v5 v6 v7 v29 v31 v32 v33 v34 v35 v36 v37 v38 v39 v40 v41 v42 v43 v44 v45 n j x8 x9 x13 x14 x15 x16 x17 x18 x19 x20 x21 x22 x23 x24 x25 x26 x27 x28 x30 w b hj hb hfv hcall hF hs hnext
  co_apply loopC_round T
  generalize hQ : (fun a' w' => LoopC Tryd.prog main AtRel D0 101 loopPre n Q a' w') = Nx
  simp only [loopPre, bodyPre, Tryd.f101, Option.getD_some]
  co_apply wpC_seq T
  co_reg T
  co_apply opsC_yld rfl (by rfl)
  intro w₁ hR
  replace hF := HP.rel hF hR
  clear hR
  refine ⟨_, _, _, yld_lss rfl rfl rfl, fun es h => ?_, ?_⟩
  focus exact T_none T h
  rw [decide_eq_true (by omega : (j : Int) < 8)]
  walk_nrm
  co_apply opsC_nil T
  co_then
  co_apply wpC_seq T
  co_apply wpC_cond T (t := true)
  focus (exact rfl)
  simp only [if_true]
  co_apply wpC_skip T
  co_then
  co_apply wpC_seq T
  co_apply wpC_block T
  co_apply wpC_seq T
  co_reg T
  co_op HP.rel hF (co_quiet T)
  co_apply opsC_yld rfl (by rfl)
  intro w₁ hR
  replace hF := HP.rel hF hR
  clear hR
  refine ⟨_, _, _, yld_index148 (k := j) (by omega) rfl rfl rfl, fun es h => ?_, ?_⟩
  focus exact T_none T h
  walk_nrm
  co_apply opsC_yld rfl (by rfl)
  intro w₁ hR
  replace hF := HP.rel hF hR
  clear hR
  refine ⟨_, _, _, yld_load1 (ad := ⟨g, j, none⟩) (v := if j = 0 then letterV else alnumV) rfl (by simp [Act.eval]) (by have h := hF.cls j _ (cls_at (by omega)); rwa [Nat.zero_add] at h) (Tryd.isAgg153 _) (evAgg _), db_read (World.block_lt_of_cell? _ ⟨g, 0, none⟩ (by simpa using hF.cls 0 _ rfl)) (fun _ _ => trivial), ?_⟩
  walk_nrm
  co_op HP.rel hF (co_quiet T)
  co_op HP.rel hF (co_quiet T)
  co_apply opsC_nil T
  co_then
  co_apply wpC_seq T
  co_reg T
  co_op HP.rel hF (co_quiet T)
  co_op HP.rel hF (co_quiet T)
  co_apply opsC_yld rfl (by rfl)
  intro w₁ hR
  replace hF := HP.rel hF hR
  clear hR
  refine ⟨_, _, _, yld_lenStr rfl rfl, fun es h => ?_, ?_⟩
  focus exact T_none T h
  rw [hs]
  walk_nrm
  co_apply opsC_yld rfl (by rfl)
  intro w₁ hR
  replace hF := HP.rel hF hR
  clear hR
  refine ⟨_, _, _, yld_lss rfl rfl rfl, fun es h => ?_, ?_⟩
  focus exact T_none T h
  rw [decide_eq_true (by omega : (j : Int) < ((5 : Nat) : Int))]
  walk_nrm
  co_op HP.rel hF (co_quiet T)
  co_op HP.rel hF (co_quiet T)
  co_op HP.rel hF (co_quiet T)
  co_op HP.rel hF (co_quiet T)
  co_apply opsC_yld rfl (by rfl)
  intro w₁ hR
  replace hF := HP.rel hF hR
  clear hR
  refine ⟨_, _, _, yld_indexStr (i := (j : Int)) (b := b) rfl rfl rfl (by omega) (by simpa using hb), fun es h => ?_, ?_⟩
  focus exact T_none T h
  walk_nrm
  co_apply opsC_callV T (f := f) rfl (by rfl) rfl (by rfl)
  · walk_nrm
    exact hcall _
  rintro v w' ⟨rfl, hg⟩
  replace hF := hF.grew hg
  clear hg
  walk_nrm
  co_op HP.rel hF (co_quiet T)
  co_op HP.rel hF (co_quiet T)
  co_apply opsC_nil T
  co_then
  co_apply wpC_cond T (t := false)
  focus (exact rfl)
  simp only [Bool.false_eq_true, if_false]
  co_apply wpC_skip T
  co_then
  co_reg T
  co_apply opsC_yld rfl (by rfl)
  intro w₁ hR
  replace hF := HP.rel hF hR
  clear hR
  refine ⟨_, _, _, yld_add rfl rfl rfl, fun es h => ?_, ?_⟩
  focus exact T_none T h
  rw [wrap_small (by omega)]
  walk_nrm
  co_op HP.rel hF (co_quiet T)
  co_apply opsC_nil T
  co_then
  rw [← hQ]
  exact hnext _ _ _ _ _ _ _ _ _ _ _ _ _ _ _ _ _ _ _ _ hF
end
end Go.Proofs.YtmmjlngbiilagaaDoor

/-
  THE IDENTIFIER's PREFIX: the walk.
-/
namespace Go.Proofs.YtmmjlngbiilagaaDoor
open Go Go.Conc Go.RowKit Go.Lib

/-- Five capital letters. -/
structure Five (s : ByteArray) : Prop where
  size : s.size = 5
  cap : ∀ (j : Nat) (b : UInt8), s[j]? = some b → 65 ≤ b.toNat ∧ b.toNat ≤ 90
theorem Five.at {s : ByteArray} (h : Five s) {j : Nat} (hj : j < 5) : ∃ b : UInt8, s[j]? = some b ∧ (65 : Int) ≤ (b.toNat : Int) ∧ (b.toNat : Int) ≤ 90 := by
  have hlt : j < s.size := by rw [h.size]; exact hj
  refine ⟨s[j], by simp [hlt], ?_, ?_⟩
  · have := (h.cap j s[j] (by simp [hlt])).1; omega
  · have := (h.cap j s[j] (by simp [hlt])).2; omega

section
variable {main : Bool}
set_option maxRecDepth 100000 in
theorem pre_exit : ∃ K, ∀ {Q : Exit → Act → World → Prop} {w0 : World} {g cap : Nat} {s : ByteArray} {v1 v3 v4 v5 v6 v7 v29 v31 v32 v33 v34 v35 v36 v37 v38 v39 v40 v41 v42 v43 v44 v45 : Value} {x8 x9 x13 x14 x15 x16 x17 x18 x19 x20 x21 x22 x23 x24 x25 x26 x27 x28 x30 : Value} {w : World}, HP w0 g w →
    (∀ (y8 y9 y13 y14 y15 y16 y17 y18 y19 y20 y21 y22 y23 y24 y25 y26 y27 y28 y30 : Value) (w' : World), HP w0 g w' → Q (.exit 0) ⟨(.slice (some ⟨g, 0, none⟩) 8 cap :: v1 :: .string s :: v3 :: v4 :: v5 :: v6 :: v7 :: y8 :: y9 :: .slice (some ⟨g, 0, none⟩) 8 cap :: .int .i64 8 :: .int .i64 ((8 : Nat) : Int) :: y13 :: y14 :: y15 :: y16 :: y17 :: y18 :: y19 :: y20 :: y21 :: y22 :: y23 :: y24 :: y25 :: y26 :: y27 :: y28 :: v29 :: y30 :: v31 :: v32 :: v33 :: v34 :: v35 :: v36 :: v37 :: v38 :: v39 :: v40 :: v41 :: v42 :: v43 :: v44 :: v45 :: []).toArray, []⟩ w') →
    LoopC Tryd.prog main AtRel D0 101 loopPre (0 + 1 + K) Q ⟨(.slice (some ⟨g, 0, none⟩) 8 cap :: v1 :: .string s :: v3 :: v4 :: v5 :: v6 :: v7 :: x8 :: x9 :: .slice (some ⟨g, 0, none⟩) 8 cap :: .int .i64 8 :: .int .i64 ((8 : Nat) : Int) :: x13 :: x14 :: x15 :: x16 :: x17 :: x18 :: x19 :: x20 :: x21 :: x22 :: x23 :: x24 :: x25 :: x26 :: x27 :: x28 :: v29 :: x30 :: v31 :: v32 :: v33 :: v34 :: v35 :: v36 :: v37 :: v38 :: v39 :: v40 :: v41 :: v42 :: v43 :: v44 :: v45 :: []).toArray, []⟩ w := by
  have T := T0
  co_apply Exists.intro
  intro Q w0 g cap s v1 v3 v4 v5 v6 v7 v29 v31 v32 v33 v34 v35 v36 v37 v38 v39 v40 v41 v42 v43 v44 v45 x8 x9 x13 x14 x15 x16 x17 x18 x19 x20 x21 x22 x23 x24 x25 x26 x27 x28 x30 w hF hnext
  co_apply loopC_round T
  generalize hQ : (fun a' w' => LoopC Tryd.prog main AtRel D0 101 loopPre 0 Q a' w') = Nx
  simp only [loopPre, bodyPre, Tryd.f101, Option.getD_some]
  co_apply wpC_seq T
  co_reg T
  co_apply opsC_yld rfl (by rfl)
  intro w₁ hR
  replace hF := HP.rel hF hR
  clear hR
  refine ⟨_, _, _, yld_lss rfl rfl rfl, fun es h => ?_, ?_⟩
  focus exact T_none T h
  rw [decide_eq_false (by decide : ¬ ((8 : Nat) : Int) < 8)]
  walk_nrm
  co_apply opsC_nil T
  co_then
  co_apply wpC_seq T (n₂ := 0)
  co_apply wpC_cond T (t := false)
  focus (exact rfl)
  simp only [Bool.false_eq_true, if_false]
  co_apply wpC_exit T
  co_then
  exact hnext _ _ _ _ _ _ _ _ _ _ _ _ _ _ _ _ _ _ _ _ hF

theorem pre_loop : ∃ K, ∀ {Q : Exit → Act → World → Prop} {w0 : World} {g cap : Nat} {s : ByteArray} {v1 v3 v4 v5 v6 v7 v29 v31 v32 v33 v34 v35 v36 v37 v38 v39 v40 v41 v42 v43 v44 v45 : Value} {x8 x9 x13 x14 x15 x16 x17 x18 x19 x20 x21 x22 x23 x24 x25 x26 x27 x28 x30 : Value} {w : World}, Five s → HP w0 g w →
    (∀ (y8 y9 y13 y14 y15 y16 y17 y18 y19 y20 y21 y22 y23 y24 y25 y26 y27 y28 y30 : Value) (w' : World), HP w0 g w' → Q (.exit 0) ⟨(.slice (some ⟨g, 0, none⟩) 8 cap :: v1 :: .string s :: v3 :: v4 :: v5 :: v6 :: v7 :: y8 :: y9 :: .slice (some ⟨g, 0, none⟩) 8 cap :: .int .i64 8 :: .int .i64 ((8 : Nat) : Int) :: y13 :: y14 :: y15 :: y16 :: y17 :: y18 :: y19 :: y20 :: y21 :: y22 :: y23 :: y24 :: y25 :: y26 :: y27 :: y28 :: v29 :: y30 :: v31 :: v32 :: v33 :: v34 :: v35 :: v36 :: v37 :: v38 :: v39 :: v40 :: v41 :: v42 :: v43 :: v44 :: v45 :: []).toArray, []⟩ w') →
    LoopC Tryd.prog main AtRel D0 101 loopPre K Q ⟨(.slice (some ⟨g, 0, none⟩) 8 cap :: v1 :: .string s :: v3 :: v4 :: v5 :: v6 :: v7 :: x8 :: x9 :: .slice (some ⟨g, 0, none⟩) 8 cap :: .int .i64 8 :: .int .i64 ((0 : Nat) : Int) :: x13 :: x14 :: x15 :: x16 :: x17 :: x18 :: x19 :: x20 :: x21 :: x22 :: x23 :: x24 :: x25 :: x26 :: x27 :: x28 :: v29 :: x30 :: v31 :: v32 :: v33 :: v34 :: v35 :: v36 :: v37 :: v38 :: v39 :: v40 :: v41 :: v42 :: v43 :: v44 :: v45 :: []).toArray, []⟩ w := by
  obtain ⟨nl, hl⟩ := letter_c (main := main)
  obtain ⟨na, ha⟩ := alnum_c (main := main)
  obtain ⟨K1, h1⟩ := pre_round (main := main) nl 119
  obtain ⟨K2, h2⟩ := pre_round (main := main) na 120
  obtain ⟨K3, h3⟩ := pre_skip (main := main)
  obtain ⟨K4, h4⟩ := pre_exit (main := main)
  refine ⟨0 + 1 + K4 + 1 + K3 + 1 + K3 + 1 + K3 + 1 + K2 + 1 + K2 + 1 + K2 + 1 + K2 + 1 + K1, ?_⟩
  intro Q w0 g cap s v1 v3 v4 v5 v6 v7 v29 v31 v32 v33 v34 v35 v36 v37 v38 v39 v40 v41 v42 v43 v44 v45 x8 x9 x13 x14 x15 x16 x17 x18 x19 x20 x21 x22 x23 x24 x25 x26 x27 x28 x30 w h5 hF hnext
  obtain ⟨b0, hb0, l0, u0⟩ := h5.at (j := 0) (by decide)
  refine h1 (j := 0) b0 (by decide) hb0 rfl (fun w => hl _ w l0 u0) hF h5.size fun _ _ _ _ _ _ _ _ _ _ _ _ _ _ _ _ _ _ _ w0 hF => ?_
  obtain ⟨b1, hb1, l1, u1⟩ := h5.at (j := 1) (by decide)
  refine h2 (j := 1) b1 (by decide) hb1 rfl (fun w => ha _ w l1 u1) hF h5.size fun _ _ _ _ _ _ _ _ _ _ _ _ _ _ _ _ _ _ _ w1 hF => ?_
  obtain ⟨b2, hb2, l2, u2⟩ := h5.at (j := 2) (by decide)
  refine h2 (j := 2) b2 (by decide) hb2 rfl (fun w => ha _ w l2 u2) hF h5.size fun _ _ _ _ _ _ _ _ _ _ _ _ _ _ _ _ _ _ _ w2 hF => ?_
  obtain ⟨b3, hb3, l3, u3⟩ := h5.at (j := 3) (by decide)
  refine h2 (j := 3) b3 (by decide) hb3 rfl (fun w => ha _ w l3 u3) hF h5.size fun _ _ _ _ _ _ _ _ _ _ _ _ _ _ _ _ _ _ _ w3 hF => ?_
  obtain ⟨b4, hb4, l4, u4⟩ := h5.at (j := 4) (by decide)
  refine h2 (j := 4) b4 (by decide) hb4 rfl (fun w => ha _ w l4 u4) hF h5.size fun _ _ _ _ _ _ _ _ _ _ _ _ _ _ _ _ _ _ _ w4 hF => ?_
  refine h3 (j := 5) (by decide) (by decide) hF h5.size fun _ _ _ _ _ _ _ _ _ _ _ _ _ _ _ _ _ _ _ w5 hF => ?_
  refine h3 (j := 6) (by decide) (by decide) hF h5.size fun _ _ _ _ _ _ _ _ _ _ _ _ _ _ _ _ _ _ _ w6 hF => ?_
  refine h3 (j := 7) (by decide) (by decide) hF h5.size fun _ _ _ _ _ _ _ _ _ _ _ _ _ _ _ _ _ _ _ w7 hF => ?_
  exact h4 hF hnext

set_option maxRecDepth 100000 in
set_option maxHeartbeats 8000000 in
theorem prefix_c : ∃ n, ∀ (g cap : Nat) (s : ByteArray) (w : World), Five s → w.rangeAt g 0 clsL → CallsC Tryd.prog main AtRel D0 101 #[.slice (some ⟨g, 0, none⟩) 8 cap, .int .i64 4, .string s] n w fun v w' => v = .tuple #[.int .i64 0, .int .i64 0] ∧ Grew w w' := by
  have T := T0
  obtain ⟨K, hloop⟩ := pre_loop (main := main)
  co_apply Exists.intro
  intro g cap s w0 h5 hcls
  co_apply callsC_of_wpC Tryd.func101 (by rfl) rfl
  have hF : HP w0 g w0 := ⟨.refl w0, hcls⟩
  simp only [Tryd.ntmps101, List.size_toArray, List.length_cons, List.length_nil, Nat.reduceAdd, Nat.reduceSub, Array.replicate_succ, Array.replicate_zero, List.push_toArray, List.append_toArray, List.nil_append, List.cons_append]
  co_apply wpC_seq T
  co_reg T
  co_op HP.rel hF (co_quiet T)
  co_op HP.rel hF (co_quiet T)
  co_apply opsC_nil T
  co_then
  co_apply wpC_seq T
  co_apply wpC_seq T
  co_reg T
  co_op HP.rel hF (co_quiet T)
  co_op HP.rel hF (co_quiet T)
  co_op HP.rel hF (co_quiet T)
  co_apply opsC_nil T
  co_then
  co_apply wpC_block T
  co_apply wpC_loop_in T
  co_apply hloop h5 hF
  intro _ _ _ _ _ _ _ _ _ _ _ _ _ _ _ _ _ _ _ w' hF'
  replace hF := hF'
  clear hF'
  co_then
  co_apply wpC_seq T
  co_apply wpC_block T
  co_apply wpC_seq T
  co_reg T
  co_op HP.rel hF (co_quiet T)
  co_apply opsC_yld rfl (by rfl)
  intro w₁ hR
  replace hF := HP.rel hF hR
  clear hR
  refine ⟨_, _, _, yld_lenStr rfl rfl, fun es h => ?_, ?_⟩
  focus exact T_none T h
  rw [h5.size]
  walk_nrm
  co_op HP.rel hF (co_quiet T)
  co_op HP.rel hF (co_quiet T)
  co_op HP.rel hF (co_quiet T)
  co_apply opsC_nil T
  co_then
  co_apply wpC_cond T (t := false)
  focus (exact rfl)
  simp only [Bool.false_eq_true, if_false]
  co_apply wpC_seq T
  co_reg T
  co_op HP.rel hF (co_quiet T)
  co_apply opsC_yld rfl (by rfl)
  intro w₁ hR
  replace hF := HP.rel hF hR
  clear hR
  refine ⟨_, _, _, yld_lenStr rfl rfl, fun es h => ?_, ?_⟩
  focus exact T_none T h
  rw [h5.size]
  walk_nrm
  co_op HP.rel hF (co_quiet T)
  co_op HP.rel hF (co_quiet T)
  co_op HP.rel hF (co_quiet T)
  co_op HP.rel hF (co_quiet T)
  co_apply opsC_nil T
  co_then
  co_apply wpC_cond T (t := false)
  focus (exact rfl)
  simp only [Bool.false_eq_true, if_false]
  co_apply wpC_skip T
  co_then
  co_apply wpC_seq T
  co_reg T
  co_op HP.rel hF (co_quiet T)
  co_op HP.rel hF (co_quiet T)
  co_apply opsC_nil T
  co_then
  co_apply wpC_ret T
  exact ⟨rfl, _, resultsC_tmp2 (by rfl) _, rfl, hF.gr⟩
end
end Go.Proofs.YtmmjlngbiilagaaDoor

/-
  THE IDENTIFIER's Check: the regions whose order is drawn.
-/
namespace Go.Proofs.YtmmjlngbiilagaaDoor
open Go Go.Conc Go.RowKit Go.Lib

section
variable {o : Oper} {a : Act} {w : World}
theorem yld_extract {x : Operand} {k : Nat} {xs : Array Value} {v : Value} (ho : o.op = .extract x k) (hx : a.eval x = .tuple xs) (hk : xs[k]? = some v) : Yld Tryd.prog o a w NoE (a.put o.dst v) w := by
  refine yld_none ?_ ?_
  · unfold execOp
    simp only [ho, hx]
    simp [Instr.extract, hk]
  · unfold execOp
    simp only [ho, hx]
    simp [Instr.extract, hk]
theorem yld_field145 {x : Operand} {b k : Nat} (hk : k < 4) (ho : o.op = .fieldAddr 145 x k) (hx : a.eval x = .pointer (some ⟨b, 0, none⟩)) : Yld Tryd.prog o a w NoE (a.put o.dst (.pointer (some ⟨b, k, none⟩))) w := by
  have hd : (⟨b, 0, none⟩ : Addr).add k = ⟨b, k, none⟩ := by rw [add0, Nat.zero_add]
  refine yld_none ?_ ?_
  · unfold execOp
    obtain rfl | rfl | rfl | rfl : k = 0 ∨ k = 1 ∨ k = 2 ∨ k = 3 := by omega
    all_goals simp [ho, hx, Instr.fieldAt, Tryd.runUnderlying145, Instr.sureAddr, fieldPlace, Tryd.sizeOf3, Tryd.sizeOf142, Tryd.sizeOf143, add0]
  · unfold execOp
    obtain rfl | rfl | rfl | rfl : k = 0 ∨ k = 1 ∨ k = 2 ∨ k = 3 := by omega
    all_goals simp [ho, hx, Instr.fieldAt, Tryd.runUnderlying145, Instr.sureAddr, fieldPlace, Tryd.sizeOf3, Tryd.sizeOf142, Tryd.sizeOf143, add0, evUnd, evSize]
theorem run_eqNilF {P : Program} {t : TypeId} {ps rs : Array TypeId} {va : Bool} (ht : P.underlying t = some (.func ps rs va)) : (Op.equal t .nilFunc .nilFunc).run P w = .ok true w := by
  have h : ∀ d : Nat, (Op.equalIn (d + 1) t .nilFunc .nilFunc).run P w = .ok true w := fun d => by
    simp [Op.equalIn, run_underlying ht]
  simp [Op.equal, Op.maxDepth, h 9999]
theorem ev_eqNilF {P : Program} {t : TypeId} {ps rs : Array TypeId} {va : Bool} (ht : P.underlying t = some (.func ps rs va)) (es : Array Event) : (Op.equal t .nilFunc .nilFunc).events P w es = es := by
  have h : ∀ d : Nat, (Op.equalIn (d + 1) t .nilFunc .nilFunc).events P w es = es := fun d => by
    simp [Op.equalIn, Sem.events_bind, run_underlying ht]
  simp [Op.equal, Op.maxDepth, h 9999]
theorem yld_neqNilF {P : Program} {t t' : TypeId} {ps rs : Array TypeId} {va : Bool} {x : Operand} (ht : P.underlying t = some (.func ps rs va)) (ho : o.op = .binOp .neq t x (.const .nilFunc) t') (hx : a.eval x = .nilFunc) : Yld P o a w NoE (a.put o.dst (.bool false)) w := by
  have hc : a.eval (.const .nilFunc) = .nilFunc := rfl
  refine yld_none ?_ ?_
  · unfold execOp
    simp only [ho, hx, hc]
    simp [binOp, eqGuard, run_eqNilF ht]
  · unfold execOp
    simp only [ho, hx, hc]
    simp [binOp, eqGuard, ev_eqNilF ht]
end

noncomputable def bodyChk : Code := Tryd.f98.body.getD .skip
noncomputable def ops4Chk : Array Oper := match bodyChk with | .seq _ (.seq _ (.seq _ (.seq (.seq (.region _ ops _) _) _))) => ops | _ => #[]
noncomputable def ops7Chk : Array Oper := match bodyChk with | .seq _ (.seq _ (.seq _ (.seq _ (.seq (.seq (.region _ ops _) _) _)))) => ops | _ => #[]

/-- What is held of memory while it checks. -/
structure HK (sb so cap p : Nat) (w0 w : World) : Prop where
  gr : Grew w0 w
  blk : w.heap[p]? = some (.cells (kindV sb so cap).cells 145 (0, 0))
  tab : KindsAt sb so cap w0
section
variable {sb so cap p : Nat} {w0 w w' : World}
theorem HK.grew (h : HK sb so cap p w0 w) (g : Grew w w') : HK sb so cap p w0 w' := ⟨h.gr.trans g, (g.block p (heap_lt h.blk)).trans h.blk, h.tab⟩
theorem HK.rel (h : HK sb so cap p w0 w) (r : AtRel w w') : HK sb so cap p w0 w' := h.grew ((Grew.refl w).rel r)
theorem HK.range (h : HK sb so cap p w0 w) : w.rangeAt p 0 [.int .i64 4, .slice (some ⟨sb, so, none⟩) 2 cap, .int .i64 0, .nilFunc] := fun j v hv => by
  rw [cell_of_row _ _ _ _ _ _ h.blk, Nat.zero_add]
  simpa [kindV, Value.cells] using hv
end

/-- What each operation yields. -/
def V4 (sb so cap p : Nat) (s : ByteArray) (j : Nat) (v : Value) (w : World) : Prop :=
  match j with
  | 0 => v = kindV sb so cap
  | 1 => ∃ g c, v = .slice (some ⟨g, 0, none⟩) 8 c ∧ w.rangeAt g 0 clsL
  | 2 => v = .pointer (some ⟨p, 0, none⟩)
  | 3 => v = .int .i64 4
  | 4 => v = .string s
  | 5 | 6 => v = .tuple #[.int .i64 0, .int .i64 0]
  | _ => v = .int .i64 0
theorem V4.grew {sb so cap p : Nat} {s : ByteArray} {w w' : World} (g : Grew w w') : ∀ {j : Nat} {v : Value}, V4 sb so cap p s j v w → V4 sb so cap p s j v w'
  | 1, _, ⟨k, c, h1, h2⟩ => ⟨k, c, h1, g.range h2⟩
  | 0, _, h | 2, _, h | 3, _, h | 4, _, h | 5, _, h | 6, _, h | _ + 7, _, h => h
def V7 (p : Nat) (j : Nat) (v : Value) (_ : World) : Prop :=
  match j with
  | 0 => v = .pointer (some ⟨p, 3, none⟩)
  | 1 => v = .nilFunc
  | 2 | 3 | 16 => v = .bool false
  | _ => True

section
variable {sb so cap p : Nat} {s : ByteArray} {w0 w w₁ : World} {a : Act} {o : Oper} {L : Nat → Bool} {i : Nat} {v : Value}
theorem k4_fin (h : HK sb so cap p w0 w) (hg : Grew w w₁) (hv : V4 sb so cap p s i v w₁) : ∃ v', a.put o.dst v = a.put o.dst v' ∧ (o.dst ≠ none → V4 sb so cap p s i v' w₁) ∧ HK sb so cap p w0 w₁ ∧ ∀ j u, L j = true → V4 sb so cap p s j u w → V4 sb so cap p s j u w₁ :=
  ⟨v, rfl, fun _ => hv, h.grew hg, fun _ _ _ x => V4.grew hg x⟩
theorem k7_fin (h : HK sb so cap p w0 w) (hg : Grew w w₁) (hv : V7 p i v w₁) : ∃ v', a.put o.dst v = a.put o.dst v' ∧ (o.dst ≠ none → V7 p i v' w₁) ∧ HK sb so cap p w0 w₁ ∧ ∀ j u, L j = true → V7 p j u w → V7 p j u w₁ :=
  ⟨v, rfl, fun _ => hv, h.grew hg, fun _ _ _ x => x⟩
end

section
variable {main : Bool}
set_option maxRecDepth 100000 in
set_option maxHeartbeats 4000000 in
theorem k4_step : ∃ c, ∀ (sb so cap p : Nat) (s : ByteArray) (w0 : World) (a0 : Act), Five s → a0.tmps[1]? = some (.string s) → a0.tmps[6]? = some (.pointer (some ⟨p, 0, none⟩)) →
    ∀ i o, ops4Chk[i]? = some o → ∀ L a w, L i = false → (∀ e ∈ o.after, Region.binds .any e = true → L e.on = true) → RJ ops4Chk a0 (V4 sb so cap p s) (fun _ w => HK sb so cap p w0 w) L a w →
      Op1C Tryd.prog main AtRel D0 98 ops4Chk i c (fun a' w' => ∃ v, a' = a.put o.dst v ∧ (o.dst ≠ none → V4 sb so cap p s i v w') ∧ HK sb so cap p w0 w' ∧ ∀ j u, L j = true → V4 sb so cap p s j u w → V4 sb so cap p s j u w') a w := by
  have T := T0
  obtain ⟨n1, hcl⟩ := classes_c (main := main)
  obtain ⟨n2, hpr⟩ := prefix_c (main := main)
  refine ⟨n1 + n2 + 3, fun sb so cap p s w0 a0 h5 e1 e6 i o ho L a w hL hdep hJ => ?_⟩
  have f1 := hJ.old (s := 1) (by kernel_rfl) e1
  have f6 := hJ.old (s := 6) (by kernel_rfl) e6
  have rd : ∀ {w₁ : World}, AtRel w w₁ → Grew w w₁ := fun r => (Grew.refl w).rel r
  have hlt : i < 11 := (Array.getElem?_eq_some_iff.1 ho).1
  have ho2 := ho
  simp only [ops4Chk, bodyChk, Tryd.f98, Option.getD_some] at ho2
  obtain rfl | rfl | rfl | rfl | rfl | rfl | rfl | rfl | rfl | rfl | rfl : i = 0 ∨ i = 1 ∨ i = 2 ∨ i = 3 ∨ i = 4 ∨ i = 5 ∨ i = 6 ∨ i = 7 ∨ i = 8 ∨ i = 9 ∨ i = 10 := by omega
  all_goals simp only [List.getElem?_toArray, List.getElem?_cons_succ, List.getElem?_cons_zero, Option.some.injEq] at ho2
  all_goals subst ho2
  · exact op1_more (op1_yld ho rfl fun w₁ hR => ⟨_, w₁, _, yld_load rfl f6 (hJ.s.rel hR).range (Tryd.isAgg145 _) (Tryd.sizeOf145 _) (evAgg _) (evSize _), db_read (heap_lt (hJ.s.rel hR).blk) (fun _ _ => trivial), k4_fin hJ.s (rd hR) rfl⟩) (by omega)
  · have h1 : a.eval (.tmp 19) = kindV sb so cap := hJ.val (j := 0) (s := 19) (by kernel_rfl) (hdep ⟨0, .data⟩ (by simp) rfl)
    refine op1_more (op1_call (Post := fun v w' => HR w v 8 [letterV, alnumV, alnumV, alnumV, alnumV, alnumV, alnumV, alnumV] w') T ho rfl rfl (by rw [show (#[Operand.tmp 19] : Array Operand).map a.eval = #[kindV sb so cap] by rw [List.map_toArray, ← h1]; rfl]; exact hcl sb so cap w (hJ.s.tab.grew hJ.s.gr)) fun v w' hr => k4_fin hJ.s hr.gr ?_) (by omega)
    rcases hr.row.2 with ⟨_, h0⟩ | ⟨g, c, cur, rfl, _, hg, _, _, hsz, htk⟩
    · cases h0
    · refine ⟨g, c, rfl, fun j u hu => ?_⟩
      rw [cell_of_row _ _ _ _ _ _ hg, Nat.zero_add]
      have h3 : (cur.toList.take (8 * 1))[j]? = some u := by rw [htk]; exact hu
      rw [List.getElem?_take] at h3
      split at h3
      · simpa using h3
      · cases h3
  · exact op1_more (op1_yld ho rfl fun w₁ hR => ⟨_, w₁, NoE, yld_field145 (k := 0) (by omega) rfl f6, db_none, k4_fin hJ.s (rd hR) rfl⟩) (by omega)
  · have h1 : a.eval (.tmp 21) = .pointer (some ⟨p, 0, none⟩) := hJ.val (j := 2) (s := 21) (by kernel_rfl) (hdep ⟨2, .data⟩ (by simp) rfl)
    exact op1_more (op1_yld ho rfl fun w₁ hR => ⟨_, w₁, _, yld_load1 (v := .int .i64 4) rfl h1 ((hJ.s.rel hR).range 0 _ rfl) (Tryd.isAgg3 _) (evAgg _), db_read (heap_lt (hJ.s.rel hR).blk) (fun _ _ => trivial), k4_fin hJ.s (rd hR) rfl⟩) (by omega)
  · exact op1_more (op1_yld ho rfl fun w₁ hR => ⟨_, w₁, NoE, yld_move rfl f1, db_none, k4_fin hJ.s (rd hR) rfl⟩) (by omega)
  · obtain ⟨g, c, h1, h2⟩ : V4 sb so cap p s 1 (a.eval (.tmp 20)) w := hJ.val (j := 1) (s := 20) (by kernel_rfl) (hdep ⟨1, .data⟩ (by simp) rfl)
    have h3 : a.eval (.tmp 22) = .int .i64 4 := hJ.val (j := 3) (s := 22) (by kernel_rfl) (hdep ⟨3, .data⟩ (by simp) rfl)
    have h4 : a.eval (.tmp 23) = .string s := hJ.val (j := 4) (s := 23) (by kernel_rfl) (hdep ⟨4, .data⟩ (by simp) rfl)
    refine op1_more (op1_call (Post := fun v w' => v = .tuple #[.int .i64 0, .int .i64 0] ∧ Grew w w') T ho rfl rfl (by rw [show (#[Operand.tmp 20, .tmp 22, .tmp 23] : Array Operand).map a.eval = #[.slice (some ⟨g, 0, none⟩) 8 c, .int .i64 4, .string s] by rw [List.map_toArray, ← h1, ← h3, ← h4]; rfl]; exact hpr g c s w h5 h2) fun v w' hr => ?_) (by omega)
    obtain ⟨rfl, hg⟩ := hr
    exact k4_fin hJ.s hg rfl
  · have h1 : a.eval (.tmp 24) = .tuple #[.int .i64 0, .int .i64 0] := hJ.val (j := 5) (s := 24) (by kernel_rfl) (hdep ⟨5, .data⟩ (by simp) rfl)
    exact op1_more (op1_yld ho rfl fun w₁ hR => ⟨_, w₁, NoE, yld_move rfl h1, db_none, k4_fin hJ.s (rd hR) rfl⟩) (by omega)
  · have h1 : a.eval (.tmp 18) = .tuple #[.int .i64 0, .int .i64 0] := hJ.val (j := 6) (s := 18) (by kernel_rfl) (hdep ⟨6, .data⟩ (by simp) rfl)
    exact op1_more (op1_yld ho rfl fun w₁ hR => ⟨_, w₁, NoE, yld_extract rfl h1 rfl, db_none, k4_fin hJ.s (rd hR) rfl⟩) (by omega)
  · have h1 : a.eval (.tmp 18) = .tuple #[.int .i64 0, .int .i64 0] := hJ.val (j := 6) (s := 18) (by kernel_rfl) (hdep ⟨6, .data⟩ (by simp) rfl)
    exact op1_more (op1_yld ho rfl fun w₁ hR => ⟨_, w₁, NoE, yld_extract rfl h1 rfl, db_none, k4_fin hJ.s (rd hR) rfl⟩) (by omega)
  · have h1 : a.eval (.tmp 25) = .int .i64 0 := hJ.val (j := 7) (s := 25) (by kernel_rfl) (hdep ⟨7, .data⟩ (by simp) rfl)
    exact op1_more (op1_yld ho rfl fun w₁ hR => ⟨_, w₁, NoE, yld_assign rfl h1, db_none, k4_fin hJ.s (rd hR) rfl⟩) (by omega)
  · have h1 : a.eval (.tmp 26) = .int .i64 0 := hJ.val (j := 8) (s := 26) (by kernel_rfl) (hdep ⟨8, .data⟩ (by simp) rfl)
    exact op1_more (op1_yld ho rfl fun w₁ hR => ⟨_, w₁, NoE, yld_assign rfl h1, db_none, k4_fin hJ.s (rd hR) rfl⟩) (by omega)

set_option maxRecDepth 100000 in
set_option maxHeartbeats 4000000 in
theorem k7_step : ∀ (sb so cap p : Nat) (w0 : World) (a0 : Act), a0.tmps[6]? = some (.pointer (some ⟨p, 0, none⟩)) →
    ∀ i o, ops7Chk[i]? = some o → ∀ L a w, L i = false → (∀ e ∈ o.after, Region.binds .any e = true → L e.on = true) → RJ ops7Chk a0 (V7 p) (fun _ w => HK sb so cap p w0 w) L a w →
      Op1C Tryd.prog main AtRel D0 98 ops7Chk i 1 (fun a' w' => ∃ v, a' = a.put o.dst v ∧ (o.dst ≠ none → V7 p i v w') ∧ HK sb so cap p w0 w' ∧ ∀ j u, L j = true → V7 p j u w → V7 p j u w') a w := by
  have T := T0
  intro sb so cap p w0 a0 e6 i o ho L a w hL hdep hJ
  have f6 := hJ.old (s := 6) (by kernel_rfl) e6
  have rd : ∀ {w₁ : World}, AtRel w w₁ → Grew w w₁ := fun r => (Grew.refl w).rel r
  have hlt : i < 17 := (Array.getElem?_eq_some_iff.1 ho).1
  have off : 4 ≤ i → i < 16 → Op1C Tryd.prog main AtRel D0 98 ops7Chk i 1 (fun a' w' => ∃ v, a' = a.put o.dst v ∧ (o.dst ≠ none → V7 p i v w') ∧ HK sb so cap p w0 w' ∧ ∀ j u, L j = true → V7 p j u w → V7 p j u w') a w := fun h4 h16 => by
    have hgd : o.guard = some (3, true) := by
      have key : ∀ i, 4 ≤ i → i < 16 → (ops7Chk[i]?).bind (·.guard) = some (3, true) := by
        have h : ((List.range 16).all fun i => decide (i < 4) || ((ops7Chk[i]?).bind (·.guard) == some (3, true))) = true := by kernel_rfl
        intro i h4 h16
        have := List.all_eq_true.1 h i (List.mem_range.2 h16)
        simpa [Nat.not_lt.2 h4] using this
      have := key i h4 h16
      rw [ho] at this
      exact this
    have hL3 : L 3 = true := by
      have key : ∀ i, 4 ≤ i → i < 16 → ((ops7Chk[i]?).map fun o => o.after.any fun e => e.on == 3 && Region.binds .any e) = some true := by
        have h : ((List.range 16).all fun i => decide (i < 4) || (((ops7Chk[i]?).map fun o => o.after.any fun e => e.on == 3 && Region.binds .any e) == some true)) = true := by kernel_rfl
        intro i h4 h16
        have := List.all_eq_true.1 h i (List.mem_range.2 h16)
        simpa [Nat.not_lt.2 h4] using this
      have := key i h4 h16
      rw [ho] at this
      simp only [Option.map_some, Option.some.injEq] at this
      rw [← Array.any_toList] at this
      obtain ⟨e, he, h⟩ := List.any_eq_true.1 this
      replace he := Array.mem_toList_iff.1 he
      simp only [Bool.and_eq_true, beq_iff_eq] at h
      rw [← h.1]
      exact hdep e he h.2
    have h3 : a.eval (.tmp 34) = .bool false := hJ.val (j := 3) (s := 34) (by kernel_rfl) hL3
    refine op1_not T ho ?_ ⟨undef, rfl, fun _ => ?_, hJ.s, fun _ _ _ x => x⟩
    · have hd : (ops7Chk[3]?).bind (·.dst) = some 34 := by kernel_rfl
      simp only [Region.wanted, hgd, yielded]
      simp only [Act.eval, Array.getD_eq_getD_getElem?] at h3
      cases hx : a.tmps[34]? with
      | none => simp [hd, hx]
      | some u =>
        rw [hx] at h3
        simp only [Option.getD_some] at h3
        subst h3
        simp [hd, hx]
    · obtain rfl | rfl | rfl | rfl | rfl | rfl | rfl | rfl | rfl | rfl | rfl | rfl : i = 4 ∨ i = 5 ∨ i = 6 ∨ i = 7 ∨ i = 8 ∨ i = 9 ∨ i = 10 ∨ i = 11 ∨ i = 12 ∨ i = 13 ∨ i = 14 ∨ i = 15 := by omega
      all_goals trivial
  by_cases h4 : 4 ≤ i ∧ i < 16
  · exact off h4.1 h4.2
  have ho2 := ho
  simp only [ops7Chk, bodyChk, Tryd.f98, Option.getD_some] at ho2
  obtain rfl | rfl | rfl | rfl | rfl : i = 0 ∨ i = 1 ∨ i = 2 ∨ i = 3 ∨ i = 16 := by omega
  all_goals simp only [List.getElem?_toArray, List.getElem?_cons_succ, List.getElem?_cons_zero, Option.some.injEq] at ho2
  all_goals subst ho2
  · exact op1_yld ho rfl fun w₁ hR => ⟨_, w₁, NoE, yld_field145 (k := 3) (by omega) rfl f6, db_none, k7_fin hJ.s (rd hR) rfl⟩
  · have h1 : a.eval (.tmp 31) = .pointer (some ⟨p, 3, none⟩) := hJ.val (j := 0) (s := 31) (by kernel_rfl) (hdep ⟨0, .data⟩ (by simp) rfl)
    exact op1_yld ho rfl fun w₁ hR => ⟨_, w₁, _, yld_load1 (v := .nilFunc) rfl h1 (by have h := (hJ.s.rel hR).range 3 _ rfl; rwa [Nat.zero_add] at h) (Tryd.isAgg143 _) (evAgg _), db_read (heap_lt (hJ.s.rel hR).blk) (fun _ _ => trivial), k7_fin hJ.s (rd hR) rfl⟩
  · have h1 : a.eval (.tmp 32) = .nilFunc := hJ.val (j := 1) (s := 32) (by kernel_rfl) (hdep ⟨1, .data⟩ (by simp) rfl)
    exact op1_yld ho rfl fun w₁ hR => ⟨_, w₁, NoE, yld_neqNilF Tryd.underlying143 rfl h1, db_none, k7_fin hJ.s (rd hR) rfl⟩
  · have h1 : a.eval (.tmp 33) = .bool false := hJ.val (j := 2) (s := 33) (by kernel_rfl) (hdep ⟨2, .data⟩ (by simp) rfl)
    exact op1_yld ho rfl fun w₁ hR => ⟨_, w₁, NoE, yld_move rfl h1, db_none, k7_fin hJ.s (rd hR) rfl⟩
  · have h1 : a.eval (.tmp 34) = .bool false := hJ.val (j := 3) (s := 34) (by kernel_rfl) (hdep ⟨3, .data⟩ (by simp) rfl)
    exact op1_yld ho rfl fun w₁ hR => ⟨_, w₁, NoE, yld_pick rfl h1, db_none, k7_fin hJ.s (rd hR) rfl⟩
end
end Go.Proofs.YtmmjlngbiilagaaDoor

/-
  THE IDENTIFIER's Check: the walk.
-/
namespace Go.Proofs.YtmmjlngbiilagaaDoor
open Go Go.Conc Go.RowKit Go.Lib

section
variable {o : Oper} {a : Act} {w : World}
theorem yld_index146 {x y : Operand} {b : Nat} (ho : o.op = .indexAddr 146 x y) (hx : a.eval x = .pointer (some ⟨b, 0, none⟩)) (hy : a.eval y = .int .i64 1) :
    Yld Tryd.prog o a w NoE (a.put o.dst (.pointer (some ⟨b, 4, none⟩))) w := by
  have hd : (⟨b, 0, none⟩ : Addr).add 4 = ⟨b, 4, none⟩ := by rw [add0, Nat.zero_add]
  refine yld_none ?_ ?_
  · unfold execOp
    simp only [ho, hx, hy]
    simp [Instr.indexAt, asIntOf, Tryd.runUnderlying146, Tryd.sizeOf145, Instr.sureAddr, hd]
  · unfold execOp
    simp only [ho, hx, hy]
    simp [Instr.indexAt, asIntOf, Tryd.runUnderlying146, Tryd.sizeOf145, Instr.sureAddr, hd, evUnd, evSize]
theorem HK.new {sb so cap : Nat} {w0 : World} {z : Array Value} (h : Grew w0 w) (hk : KindsAt sb so cap w0) : HB w0 w.heap.size z 145 (w.alloc (.cells z 145)) := HB.new h
theorem HK.store {sb so cap p : Nat} {w0 : World} {z : Array Value} (h : HB w0 p z 145 w) (hp : w0.heap.size ≤ p) (hk : KindsAt sb so cap w0) : HK sb so cap p w0 (w.setRow p (kindV sb so cap).cells) := by
  have ho : ∀ b, b ≠ p → (w.setRow p (kindV sb so cap).cells).heap[b]? = w.heap[b]? := fun b hb => setRow_other w p b _ hb
  exact ⟨⟨h.gr.tape, h.gr.os, h.gr.output, by simpa using h.gr.size, fun b hb => (ho b (by omega)).trans (h.gr.block b hb)⟩, setRow_heap w p _ _ _ _ h.blk, hk⟩
end

section
variable {main : Bool}
set_option maxRecDepth 100000 in
set_option maxHeartbeats 16000000 in
theorem check_c : ∃ n, ∀ (sb so cap : Nat) (s : ByteArray) (w : World), Five s → KindsAt sb so cap w → CallsC Tryd.prog main AtRel D0 98 #[.int .i64 1, .string s] n w fun v w' => v = .tuple #[.int .i64 0, .int .i64 0] ∧ Grew w w' := by
  have T := T0
  obtain ⟨c4, hstep4⟩ := k4_step (main := main)
  have hstep7 := k7_step (main := main)
  co_apply Exists.intro
  intro sb so cap s w0 h5 hk
  co_apply callsC_of_wpC Tryd.func98 (by rfl) rfl
  have hF : Grew w0 w0 := .refl w0
  simp only [Tryd.ntmps98, List.size_toArray, List.length_cons, List.length_nil, Nat.reduceAdd, Nat.reduceSub, Array.replicate_succ, Array.replicate_zero, List.push_toArray, List.append_toArray, List.nil_append, List.cons_append]
  co_apply wpC_seq T
  co_reg T
  co_op Grew.rel hF (co_quiet T)
  co_op Grew.rel hF (co_quiet T)
  co_apply opsC_nil T
  co_then
  co_apply wpC_seq T
  co_apply wpC_seq T
  co_reg T
  co_op Grew.rel hF (co_quiet T)
  co_op Grew.rel hF (co_quiet T)
  co_op Grew.rel hF (co_quiet T)
  co_op Grew.rel hF (co_quiet T)
  co_op Grew.rel hF (co_quiet T)
  co_op Grew.rel hF (co_quiet T)
  co_apply opsC_nil T
  co_then
  co_apply wpC_cond T (t := false)
  focus (exact rfl)
  simp only [Bool.false_eq_true, if_false]
  co_apply wpC_skip T
  co_then
  co_apply wpC_seq T
  co_reg T
  co_op Grew.rel hF (co_quiet T)
  co_apply opsC_yld rfl (by rfl)
  intro w₁ hR
  replace hF := Grew.rel hF hR
  clear hR
  refine ⟨_, _, _, yld_index146 (b := 2) rfl rfl rfl, fun es h => ?_, ?_⟩
  focus exact T_none T h
  walk_nrm
  co_apply opsC_yld rfl (by rfl)
  intro w₁ hR
  replace hF := Grew.rel hF hR
  clear hR
  refine ⟨_, _, _, yld_load rfl rfl (hk.grew hF).kinds (Tryd.isAgg145 _) (Tryd.sizeOf145 _) (evAgg _) (evSize _), db_read (World.block_lt_of_cell? _ _ ((hk.grew hF).kinds 0 _ rfl)) (fun _ _ => trivial), ?_⟩
  walk_nrm
  co_apply opsC_yld rfl (by rfl)
  intro w₁ hR
  replace hF := Grew.rel hF hR
  clear hR
  refine ⟨_, _, _, yld_alloc rfl (Tryd.zeroValue145 _) (evZero _), db_new _, ?_⟩
  have hp := hF.size
  replace hF := HB.new (cells := (Value.agg #[.int .i64 0, .slice none 0 0, .int .i64 0, .nilFunc]).cells) (t := 145) hF
  walk_nrm
  generalize hw : w₁.alloc _ = w₂ at hF ⊢
  generalize w₁.heap.size = p at hF hp ⊢
  clear hw w₁
  co_apply opsC_yld rfl (by rfl)
  intro w₁ hR
  replace hF := HB.rel hF hR
  clear hR
  refine ⟨_, _, _, yld_store (v := kindV sb so cap) rfl rfl rfl hF.blk (Tryd.sizeOf145 _) (evSize _) rfl (by simp [kindV, Value.cells, Value.oneCell']), db_row (heap_lt hF.blk) (fun _ _ _ => trivial) _, ?_⟩
  replace hF := HK.store hF hp hk
  walk_nrm
  generalize w₁.setRow _ _ = w₂ at hF ⊢
  clear w₁ hp
  co_apply opsC_nil T
  co_then
  co_apply wpC_seq T
  co_apply wpC_seq T
  have hst := fun a0 h1 h6 => hstep4 sb so cap p s w0 a0 h5 h1 h6
  simp only [ops4Chk, bodyChk, Tryd.f98, Option.getD_some] at hst
  co_apply wpC_any T draw0 (by kernel_rfl) (c := c4) (V := V4 sb so cap p s) (S := fun _ w' => HK sb so cap p w0 w') (by kernel_rfl) (by kernel_rfl) (by kernel_rfl)
  · intro w₁ hR; exact (hF.rel hR).rel ⟨_, rfl⟩
  · exact hst _ rfl rfl
  intro L a w₁ hL hJ
  have hs : a.tmps.size = 50 := hJ.size
  have hd := hJ.defers
  have e8 : a.eval (.tmp 8) = .int .i64 0 := hJ.done 10 _ 8 rfl (hL 10 (by decide)) rfl
  have e6 := hJ.old (s := 6) (by kernel_rfl) rfl
  have hF := hJ.s
  clear hJ hL
  obtain ⟨tm, df⟩ := a
  simp only at hs hd
  subst hd
  obtain ⟨u0, u1, u2, u3, u4, u5, u6, u7, u8, u9, u10, u11, u12, u13, u14, u15, u16, u17, u18, u19, u20, u21, u22, u23, u24, u25, u26, u27, u28, u29, u30, u31, u32, u33, u34, u35, u36, u37, u38, u39, u40, u41, u42, u43, u44, u45, u46, u47, u48, u49, rfl⟩ := array50 tm hs
  simp only [Act.eval, Array.getD_eq_getD_getElem?, List.getElem?_toArray, List.getElem?_cons_succ, List.getElem?_cons_zero, Option.getD_some] at e8 e6
  subst e8 e6
  clear hs
  co_then
  co_apply wpC_seq T
  co_reg T
  co_op HK.rel hF (co_quiet T)
  co_op HK.rel hF (co_quiet T)
  co_apply opsC_nil T
  co_then
  co_apply wpC_cond T (t := false)
  focus (exact rfl)
  simp only [Bool.false_eq_true, if_false]
  co_apply wpC_skip T
  co_then
  co_apply wpC_seq T
  co_apply wpC_seq T
  have hst := fun a0 h6 => hstep7 sb so cap p w0 a0 h6
  simp only [ops7Chk, bodyChk, Tryd.f98, Option.getD_some] at hst
  co_apply wpC_any T draw0 (by kernel_rfl) (c := 1) (V := V7 p) (S := fun _ w' => HK sb so cap p w0 w') (by kernel_rfl) (by kernel_rfl) (by kernel_rfl)
  · intro w₁ hR; exact (hF.rel hR).rel ⟨_, rfl⟩
  · exact hst _ rfl
  intro L a w₁ hL hJ
  have hs : a.tmps.size = 50 := hJ.size
  have hd := hJ.defers
  have e47 : a.eval (.tmp 47) = .bool false := hJ.done 16 _ 47 rfl (hL 16 (by decide)) rfl
  have hF := hJ.s
  clear hJ hL
  obtain ⟨tm, df⟩ := a
  simp only at hs hd
  subst hd
  obtain ⟨y0, y1, y2, y3, y4, y5, y6, y7, y8, y9, y10, y11, y12, y13, y14, y15, y16, y17, y18, y19, y20, y21, y22, y23, y24, y25, y26, y27, y28, y29, y30, y31, y32, y33, y34, y35, y36, y37, y38, y39, y40, y41, y42, y43, y44, y45, y46, y47, y48, y49, rfl⟩ := array50 tm hs
  simp only [Act.eval, Array.getD_eq_getD_getElem?, List.getElem?_toArray, List.getElem?_cons_succ, List.getElem?_cons_zero, Option.getD_some] at e47
  subst e47
  clear hs
  co_then
  co_apply wpC_cond T (t := false)
  focus (exact rfl)
  simp only [Bool.false_eq_true, if_false]
  co_apply wpC_skip T
  co_then
  co_apply wpC_seq T
  co_reg T
  co_op HK.rel hF (co_quiet T)
  co_op HK.rel hF (co_quiet T)
  co_apply opsC_nil T
  co_then
  co_apply wpC_ret T
  exact ⟨rfl, _, resultsC_tmp2 (by rfl) _, rfl, hF.gr⟩

set_option maxRecDepth 100000 in
theorem valid_c : ∃ n, ∀ (sb so cap : Nat) (s : ByteArray) (w : World), Five s → KindsAt sb so cap w → CallsC Tryd.prog main AtRel D0 87 #[.int .i64 1, .string s] n w fun v w' => v = .bool true ∧ Grew w w' := by
  have T := T0
  obtain ⟨nc, hc⟩ := check_c (main := main)
  co_apply Exists.intro
  intro sb so cap s w0 h5 hk
  co_apply callsC_of_wpC Tryd.func87 (by rfl) rfl
  have hF : Grew w0 w0 := .refl w0
  simp only [Tryd.ntmps87, List.size_toArray, List.length_cons, List.length_nil, Nat.reduceAdd, Nat.reduceSub, Array.replicate_succ, Array.replicate_zero, List.push_toArray, List.append_toArray, List.nil_append, List.cons_append]
  co_apply wpC_seq T
  co_reg T
  co_op Grew.rel hF (co_quiet T)
  co_apply opsC_nil T
  co_then
  co_apply wpC_seq T
  co_reg T
  co_op Grew.rel hF (co_quiet T)
  co_op Grew.rel hF (co_quiet T)
  co_apply opsC_call T rfl (by rfl) rfl
  focus (walk_nrm; exact hc sb so cap s _ h5 (hk.grew hF))
  rintro v w' ⟨rfl, hs⟩
  replace hF := hF.trans hs
  clear hs
  walk_nrm
  co_op Grew.rel hF (co_quiet T)
  co_op Grew.rel hF (co_quiet T)
  co_op Grew.rel hF (co_quiet T)
  co_op Grew.rel hF (co_quiet T)
  co_op Grew.rel hF (co_quiet T)
  co_apply opsC_nil T
  co_then
  co_apply wpC_seq T
  co_reg T
  co_op Grew.rel hF (co_quiet T)
  co_op Grew.rel hF (co_quiet T)
  co_op Grew.rel hF (co_quiet T)
  co_apply opsC_nil T
  co_then
  co_apply wpC_ret T
  exact ⟨rfl, _, resultsC_tmp (by rfl) _, rfl, hF⟩
end
end Go.Proofs.YtmmjlngbiilagaaDoor
