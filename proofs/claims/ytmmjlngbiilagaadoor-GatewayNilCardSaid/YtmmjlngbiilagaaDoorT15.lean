/-
  checkAll AT THE EXAMPLE's STREAMS: rounds.
-/
import Derived.Test.YtmmjlngbiilagaaDoorT14
import Derived.Test.YtmmjlngbiilagaaDoorRows
import Derived.LaidMore
import Derived.LaidHandle
import Derived.OpenShut
import Derived.ChangeSame
import Derived.Lib.SmallJoins

namespace Go.Proofs.YtmmjlngbiilagaaDoor
open Go Go.Conc Go.RowKit Go.Lib

/-- The map of members. -/
structure HM (w0 : World) (mp : Nat) (es : Array MapEntry) (c : Nat) (w : World) : Prop where
  gr : Grew w0 w
  mem : w.heap[mp]? = some (.map es c)
  new : w0.heap.size ≤ mp
/-- .. and the stream at hand. -/
structure HN (w0 : World) (mp : Nat) (es : Array MapEntry) (c p : Nat) (B : Array Value) (w : World) : Prop where
  hm : HM w0 mp es c w
  str : w.heap[p]? = some (.cells B 61 (0, 0))
  pn : w0.heap.size ≤ p
  ne : mp ≠ p
section
variable {w0 w w' : World} {mp c c' p : Nat} {es es' : Array MapEntry} {B B' : Array Value}
theorem HM.grew (h : HM w0 mp es c w) (g : Grew w w') : HM w0 mp es c w' := ⟨h.gr.trans g, (g.block mp (heap_lt h.mem)).trans h.mem, h.new⟩
theorem HM.rel (h : HM w0 mp es c w) (r : AtRel w w') : HM w0 mp es c w' := h.grew ((Grew.refl w).rel r)
theorem HN.grew (h : HN w0 mp es c p B w) (g : Grew w w') : HN w0 mp es c p B w' := ⟨h.hm.grew g, (g.block p (heap_lt h.str)).trans h.str, h.pn, h.ne⟩
theorem HN.rel (h : HN w0 mp es c p B w) (r : AtRel w w') : HN w0 mp es c p B w' := h.grew ((Grew.refl w).rel r)
theorem HN.trans (h : HN w0 mp es c p B w) (g : Grew w w') : HN w0 mp es c p B w' := h.grew g
theorem HM.str (h : HM w0 mp es c w) : HN w0 mp es c w.heap.size B (w.alloc (.cells B 61)) :=
  ⟨h.grew ((Grew.refl w).alloc _), heap_alloc_new w _, h.gr.size, Nat.ne_of_lt (heap_lt h.mem)⟩
theorem HN.store (h : HN w0 mp es c p B w) : HN w0 mp es c p B' (w.setRow p B') := by
  have ho : ∀ b, b ≠ p → (w.setRow p B').heap[b]? = w.heap[b]? := fun b hb => setRow_other w p b _ hb
  have := h.pn
  have g := h.hm.gr
  exact ⟨⟨⟨g.tape, g.os, g.output, by simpa using g.size, fun b hb => (ho b (by omega)).trans (g.block b hb)⟩, (ho mp h.ne).trans h.hm.mem, h.hm.new⟩, setRow_heap w p _ _ _ _ h.str, h.pn, h.ne⟩
theorem HN.upd (h : HN w0 mp es c p B w) : HN w0 mp es' c' p B { w with heap := w.heap.setIfInBounds mp (.map es' c') } := by
  have ho : ∀ b, b ≠ mp → (w.heap.setIfInBounds mp (.map es' c'))[b]? = w.heap[b]? := fun b hb => Array.getElem?_setIfInBounds_ne (Ne.symm hb)
  have := h.hm.new
  have g := h.hm.gr
  exact ⟨⟨⟨g.tape, g.os, g.output, by simpa using g.size, fun b hb => (ho b (by omega)).trans (g.block b hb)⟩, by simp [heap_lt h.hm.mem], h.hm.new⟩, (ho p (Ne.symm h.ne)).trans h.str, h.pn, h.ne⟩
theorem yld_index62 {o : Oper} {a : Act} {x y : Operand} {g n cap j : Nat} (hj : j < n) (ho : o.op = .indexAddr 62 x y) (hx : a.eval x = .slice (some ⟨g, 0, none⟩) n cap) (hy : a.eval y = .int .i64 j) :
    Yld Tryd.prog o a w NoE (a.put o.dst (.pointer (some ⟨g, j * 2, none⟩))) w := by
  have hd : (⟨g, 0, none⟩ : Addr).add (j * 2) = ⟨g, j * 2, none⟩ := by rw [add0, Nat.zero_add]
  have h0 : (0 : Int) ≤ (j : Int) ∧ (j : Int) < (n : Int) := by omega
  refine yld_none ?_ ?_
  · unfold execOp
    simp [ho, hx, hy, Instr.indexAt, asIntOf, Tryd.runUnderlying62, Tryd.sizeOf61, hd, h0, hj]
  · unfold execOp
    simp [ho, hx, hy, Instr.indexAt, asIntOf, Tryd.runUnderlying62, Tryd.sizeOf61, hd, h0, hj, evUnd, evSize]
end
noncomputable def bodyAll : Code := Tryd.f28.body.getD .skip
noncomputable def loopAll : Code := match bodyAll with | .seq _ (.seq _ (.seq _ (.seq _ (.seq (.seq _ (.block _ (.loop c))) _)))) => c | _ => .skip

section
variable {main : Bool}
set_option maxRecDepth 100000 in
set_option maxHeartbeats 16000000 in
theorem all_B : ∃ K, ∀ {Q : Exit → Act → World → Prop} {w0 : World} {mp bst capS sb so kc bX cap n : Nat} {v0 v1 v5 v8 v9 v10 v11 : Value} {x6 x7 x15 x16 x17 x18 x19 x20 x21 x22 x23 x24 x25 x26 x27 x28 x29 x30 x31 x32 x33 x34 x35 x36 x37 : Value} {w : World}, HM w0 mp #[] 0 w → KindsAt sb so kc w0 → w0.rangeAt bst 0 [.string { data := #[66, 65, 78, 75, 66] }, .slice (some ⟨bX, 0, none⟩) 2 cap] → w0.rangeAt bX 0 mB1.cells → w0.rangeAt bX 4 mB2.cells →
    (∀ (y6 y7 y15 y16 y17 y18 y19 y20 y21 y22 y23 y24 y25 y26 y27 y28 y29 y30 y31 y32 y33 y34 y35 y36 y37 : Value) (w' : World), HM w0 mp #[{ key := .string { data := #[66, 65, 78, 75, 66] }, val := .bool true, born := 0 }] 1 w' → LoopC Tryd.prog main AtRel D0 28 loopAll n Q ⟨(v0 :: v1 :: .int .i64 0 :: .map (some mp) :: .int .i64 2 :: v5 :: y6 :: y7 :: v8 :: v9 :: v10 :: v11 :: .slice (some ⟨bst, 0, none⟩) 2 capS :: .int .i64 2 :: .int .i64 1 :: y15 :: y16 :: y17 :: y18 :: y19 :: y20 :: y21 :: y22 :: y23 :: y24 :: y25 :: y26 :: y27 :: y28 :: y29 :: y30 :: y31 :: y32 :: y33 :: y34 :: y35 :: y36 :: y37 :: []).toArray, []⟩ w') →
    LoopC Tryd.prog main AtRel D0 28 loopAll (n + 1 + K) Q ⟨(v0 :: v1 :: .int .i64 0 :: .map (some mp) :: .int .i64 0 :: v5 :: x6 :: x7 :: v8 :: v9 :: v10 :: v11 :: .slice (some ⟨bst, 0, none⟩) 2 capS :: .int .i64 2 :: .int .i64 0 :: x15 :: x16 :: x17 :: x18 :: x19 :: x20 :: x21 :: x22 :: x23 :: x24 :: x25 :: x26 :: x27 :: x28 :: x29 :: x30 :: x31 :: x32 :: x33 :: x34 :: x35 :: x36 :: x37 :: []).toArray, []⟩ w := by
  have T := T0
  obtain ⟨nB, hB⟩ := strB_c (main := main)
  obtain ⟨nA, hA⟩ := strA_c (main := main)
  co_apply Exists.intro
  intro Q w0 mp bst capS sb so kc bX cap n v0 v1 v5 v8 v9 v10 v11 x6 x7 x15 x16 x17 x18 x19 x20 x21 x22 x23 x24 x25 x26 x27 x28 x29 x30 x31 x32 x33 x34 x35 x36 x37 w hF hk hs hM1 hM2 hnext
  co_apply loopC_round T
  generalize hQ : (fun a' w' => LoopC Tryd.prog main AtRel D0 28 loopAll n Q a' w') = Nx
  simp only [loopAll, bodyAll, Tryd.f28, Option.getD_some]
  co_apply wpC_seq T
  co_reg T
  co_op HM.rel hF (co_quiet T)
  co_apply opsC_nil T
  co_then
  co_apply wpC_seq T
  co_apply wpC_cond T (t := true)
  focus (exact rfl)
  simp only [if_true]
  co_apply wpC_skip T
  co_then
  co_apply wpC_seq T
  co_apply wpC_block T
  co_apply wpC_seq T
  co_reg T
  co_apply opsC_yld rfl (by rfl)
  intro w₁ hR
  replace hF := HM.rel hF hR
  clear hR
  refine ⟨_, _, _, yld_index62 (j := 0) (by decide) rfl rfl rfl, fun es h => ?_, ?_⟩
  focus exact T_none T h
  walk_nrm
  co_apply opsC_yld rfl (by rfl)
  intro w₁ hR
  replace hF := HM.rel hF hR
  clear hR
  have hm : w₁.rangeAt bst 0 [.string { data := #[66, 65, 78, 75, 66] }, .slice (some ⟨bX, 0, none⟩) 2 cap] := hF.gr.range hs
  refine ⟨_, _, _, yld_load rfl rfl hm (Tryd.isAgg61 _) (Tryd.sizeOf61 _) (evAgg _) (evSize _), db_read (World.block_lt_of_cell? _ _ (hm 0 _ rfl)) (fun _ _ => trivial), ?_⟩
  clear hm
  walk_nrm
  co_apply opsC_yld rfl (by rfl)
  intro w₁ hR
  replace hF := HM.rel hF hR
  clear hR
  refine ⟨_, _, _, yld_alloc rfl (Tryd.zeroValue61 _) (evZero _), db_new _, ?_⟩
  replace hF := HM.str (B := (Value.agg #[.string { data := #[] }, .slice none 0 0]).cells) hF
  walk_nrm
  generalize hw : w₁.alloc _ = w₂ at hF ⊢
  generalize w₁.heap.size = p at hF ⊢
  clear hw w₁
  co_apply opsC_yld rfl (by rfl)
  intro w₁ hR
  replace hF := HN.rel hF hR
  clear hR
  refine ⟨_, _, _, yld_store (v := .agg #[.string { data := #[66, 65, 78, 75, 66] }, .slice (some ⟨bX, 0, none⟩) 2 cap]) rfl rfl rfl hF.str (Tryd.sizeOf61 _) (evSize _) rfl (by simp [Value.cells, Value.oneCell']), db_row (heap_lt hF.str) (fun _ _ _ => trivial) _, ?_⟩
  replace hF := HN.store (B' := #[.string { data := #[66, 65, 78, 75, 66] }, .slice (some ⟨bX, 0, none⟩) 2 cap]) hF
  walk_nrm
  simp only [Value.cells]
  generalize w₁.setRow _ _ = w₂ at hF ⊢
  clear w₁
  co_apply opsC_nil T
  co_then
  co_apply wpC_seq T
  co_apply wpC_seq T
  co_reg T
  co_apply opsC_yld rfl (by rfl)
  intro w₁ hR
  replace hF := HN.rel hF hR
  clear hR
  have hm : w₁.rangeAt p 0 [.string { data := #[66, 65, 78, 75, 66] }, .slice (some ⟨bX, 0, none⟩) 2 cap] := fun j v hv => by
    rw [cell_of_row _ _ _ _ _ _ hF.str, Nat.zero_add]
    simpa using hv
  refine ⟨_, _, _, yld_load rfl rfl hm (Tryd.isAgg61 _) (Tryd.sizeOf61 _) (evAgg _) (evSize _), db_read (heap_lt hF.str) (fun _ _ => trivial), ?_⟩
  clear hm
  walk_nrm
  co_apply opsC_call T rfl (by rfl) rfl
  focus (walk_nrm; exact hB sb so kc bX cap _ (hk.grew hF.hm.gr) (hF.hm.gr.range hM1) (hF.hm.gr.range hM2))
  rintro v w' ⟨rfl, hs⟩
  replace hF := hF.trans hs
  clear hs
  walk_nrm
  co_op HN.rel hF (co_quiet T)
  co_apply opsC_nil T
  co_then
  co_apply wpC_seq T
  co_reg T
  co_op HN.rel hF (co_quiet T)
  co_op HN.rel hF (co_quiet T)
  co_apply opsC_nil T
  co_then
  co_apply wpC_cond T (t := false)
  focus (exact rfl)
  simp only [Bool.false_eq_true, if_false]
  co_apply wpC_skip T
  co_then
  co_apply wpC_seq T
  co_apply wpC_seq T
  co_reg T
  co_op HN.rel hF (co_quiet T)
  co_op HN.rel hF (co_quiet T)
  co_apply opsC_yld rfl (by rfl)
  intro w₁ hR
  replace hF := HN.rel hF hR
  clear hR
  refine ⟨_, _, _, yld_load1 (ad := ⟨p, 0, none⟩) (v := .string { data := #[66, 65, 78, 75, 66] }) rfl rfl (by rw [cell_of_row _ _ _ _ _ _ hF.str]; rfl) (Tryd.isAgg9 _) (evAgg _), db_read (heap_lt hF.str) (fun _ _ => trivial), ?_⟩
  walk_nrm
  co_apply opsC_yld rfl (by rfl)
  intro w₁ hR
  replace hF := HN.rel hF hR
  clear hR
  refine ⟨_, _, _, yld_lookup rfl rfl rfl hF.hm.mem (by kernel_rfl), db_obj (Nat.le_refl _) (heap_lt hF.hm.mem) (fun _ _ => trivial), ?_⟩
  walk_nrm
  co_apply opsC_nil T
  co_then
  co_apply wpC_cond T (t := false)
  focus (exact rfl)
  simp only [Bool.false_eq_true, if_false]
  co_apply wpC_skip T
  co_then
  co_apply wpC_seq T
  co_reg T
  co_op HN.rel hF (co_quiet T)
  co_op HN.rel hF (co_quiet T)
  co_apply opsC_yld rfl (by rfl)
  intro w₁ hR
  replace hF := HN.rel hF hR
  clear hR
  refine ⟨_, _, _, yld_load1 (ad := ⟨p, 0, none⟩) (v := .string { data := #[66, 65, 78, 75, 66] }) rfl rfl (by rw [cell_of_row _ _ _ _ _ _ hF.str]; rfl) (Tryd.isAgg9 _) (evAgg _), db_read (heap_lt hF.str) (fun _ _ => trivial), ?_⟩
  walk_nrm
  co_apply opsC_yld rfl (by rfl)
  intro w₁ hR
  replace hF := HN.rel hF hR
  clear hR
  refine ⟨_, _, _, yld_mapUpdate rfl rfl rfl rfl hF.hm.mem (by kernel_rfl), db_obj (by simp) (heap_lt hF.hm.mem) (fun _ _ => trivial), ?_⟩
  replace hF := HN.upd (es' := #[{ key := .string { data := #[66, 65, 78, 75, 66] }, val := .bool true, born := 0 }]) (c' := 1) hF
  walk_nrm
  change OpsC _ _ _ _ _ _ _ _ _ _ ({ w₁ with heap := w₁.heap.setIfInBounds mp (.map #[{ key := .string { data := #[66, 65, 78, 75, 66] }, val := .bool true, born := 0 }] 1) } : World)
  generalize ({ w₁ with heap := w₁.heap.setIfInBounds mp (.map #[{ key := .string { data := #[66, 65, 78, 75, 66] }, val := .bool true, born := 0 }] 1) } : World) = w₂ at hF ⊢
  clear w₁
  co_apply opsC_nil T
  co_then
  co_apply wpC_seq T
  co_reg T
  co_op HN.rel hF (co_quiet T)
  co_op HN.rel hF (co_quiet T)
  co_apply opsC_yld rfl (by rfl)
  intro w₁ hR
  replace hF := HN.rel hF hR
  clear hR
  refine ⟨_, _, _, yld_load1 (ad := ⟨p, 1, none⟩) (v := .slice (some ⟨bX, 0, none⟩) 2 cap) rfl rfl (by rw [cell_of_row _ _ _ _ _ _ hF.str]; rfl) (Tryd.isAgg27 _) (evAgg _), db_read (heap_lt hF.str) (fun _ _ => trivial), ?_⟩
  walk_nrm
  co_op HN.rel hF (co_quiet T)
  co_op HN.rel hF (co_quiet T)
  co_op HN.rel hF (co_quiet T)
  co_apply opsC_nil T
  co_then
  co_apply wpC_seq T
  co_reg T
  co_op HN.rel hF (co_quiet T)
  co_op HN.rel hF (co_quiet T)
  co_apply opsC_nil T
  co_then
  co_apply wpC_cond T (t := false)
  focus (exact rfl)
  simp only [Bool.false_eq_true, if_false]
  co_apply wpC_skip T
  co_then
  co_reg T
  co_op HN.rel hF (co_quiet T)
  co_op HN.rel hF (co_quiet T)
  co_apply opsC_nil T
  co_then
  rw [← hQ]
  exact hnext _ _ _ _ _ _ _ _ _ _ _ _ _ _ _ _ _ _ _ _ _ _ _ _ _ _ hF.hm
set_option maxRecDepth 100000 in
set_option maxHeartbeats 16000000 in
theorem all_A : ∃ K, ∀ {Q : Exit → Act → World → Prop} {w0 : World} {mp bst capS sb so kc bX cap n : Nat} {v0 v1 v5 v8 v9 v10 v11 : Value} {x6 x7 x15 x16 x17 x18 x19 x20 x21 x22 x23 x24 x25 x26 x27 x28 x29 x30 x31 x32 x33 x34 x35 x36 x37 : Value} {w : World}, HM w0 mp #[{ key := .string { data := #[66, 65, 78, 75, 66] }, val := .bool true, born := 0 }] 1 w → KindsAt sb so kc w0 → w0.rangeAt bst 2 [.string { data := #[66, 65, 78, 75, 65] }, .slice (some ⟨bX, 0, none⟩) 1 cap] → w0.rangeAt bX 0 mA1.cells →
    (∀ (y6 y7 y15 y16 y17 y18 y19 y20 y21 y22 y23 y24 y25 y26 y27 y28 y29 y30 y31 y32 y33 y34 y35 y36 y37 : Value) (w' : World), HM w0 mp #[{ key := .string { data := #[66, 65, 78, 75, 66] }, val := .bool true, born := 0 }, { key := .string { data := #[66, 65, 78, 75, 65] }, val := .bool true, born := 1 }] 2 w' → LoopC Tryd.prog main AtRel D0 28 loopAll n Q ⟨(v0 :: v1 :: .int .i64 0 :: .map (some mp) :: .int .i64 3 :: v5 :: y6 :: y7 :: v8 :: v9 :: v10 :: v11 :: .slice (some ⟨bst, 0, none⟩) 2 capS :: .int .i64 2 :: .int .i64 2 :: y15 :: y16 :: y17 :: y18 :: y19 :: y20 :: y21 :: y22 :: y23 :: y24 :: y25 :: y26 :: y27 :: y28 :: y29 :: y30 :: y31 :: y32 :: y33 :: y34 :: y35 :: y36 :: y37 :: []).toArray, []⟩ w') →
    LoopC Tryd.prog main AtRel D0 28 loopAll (n + 1 + K) Q ⟨(v0 :: v1 :: .int .i64 0 :: .map (some mp) :: .int .i64 2 :: v5 :: x6 :: x7 :: v8 :: v9 :: v10 :: v11 :: .slice (some ⟨bst, 0, none⟩) 2 capS :: .int .i64 2 :: .int .i64 1 :: x15 :: x16 :: x17 :: x18 :: x19 :: x20 :: x21 :: x22 :: x23 :: x24 :: x25 :: x26 :: x27 :: x28 :: x29 :: x30 :: x31 :: x32 :: x33 :: x34 :: x35 :: x36 :: x37 :: []).toArray, []⟩ w := by
  have T := T0
  obtain ⟨nB, hB⟩ := strB_c (main := main)
  obtain ⟨nA, hA⟩ := strA_c (main := main)
  co_apply Exists.intro
  intro Q w0 mp bst capS sb so kc bX cap n v0 v1 v5 v8 v9 v10 v11 x6 x7 x15 x16 x17 x18 x19 x20 x21 x22 x23 x24 x25 x26 x27 x28 x29 x30 x31 x32 x33 x34 x35 x36 x37 w hF hk hs hM1 hnext
  co_apply loopC_round T
  generalize hQ : (fun a' w' => LoopC Tryd.prog main AtRel D0 28 loopAll n Q a' w') = Nx
  simp only [loopAll, bodyAll, Tryd.f28, Option.getD_some]
  co_apply wpC_seq T
  co_reg T
  co_op HM.rel hF (co_quiet T)
  co_apply opsC_nil T
  co_then
  co_apply wpC_seq T
  co_apply wpC_cond T (t := true)
  focus (exact rfl)
  simp only [if_true]
  co_apply wpC_skip T
  co_then
  co_apply wpC_seq T
  co_apply wpC_block T
  co_apply wpC_seq T
  co_reg T
  co_apply opsC_yld rfl (by rfl)
  intro w₁ hR
  replace hF := HM.rel hF hR
  clear hR
  refine ⟨_, _, _, yld_index62 (j := 1) (by decide) rfl rfl rfl, fun es h => ?_, ?_⟩
  focus exact T_none T h
  walk_nrm
  co_apply opsC_yld rfl (by rfl)
  intro w₁ hR
  replace hF := HM.rel hF hR
  clear hR
  have hm : w₁.rangeAt bst 2 [.string { data := #[66, 65, 78, 75, 65] }, .slice (some ⟨bX, 0, none⟩) 1 cap] := hF.gr.range hs
  refine ⟨_, _, _, yld_load rfl rfl hm (Tryd.isAgg61 _) (Tryd.sizeOf61 _) (evAgg _) (evSize _), db_read (World.block_lt_of_cell? _ _ (hm 0 _ rfl)) (fun _ _ => trivial), ?_⟩
  clear hm
  walk_nrm
  co_apply opsC_yld rfl (by rfl)
  intro w₁ hR
  replace hF := HM.rel hF hR
  clear hR
  refine ⟨_, _, _, yld_alloc rfl (Tryd.zeroValue61 _) (evZero _), db_new _, ?_⟩
  replace hF := HM.str (B := (Value.agg #[.string { data := #[] }, .slice none 0 0]).cells) hF
  walk_nrm
  generalize hw : w₁.alloc _ = w₂ at hF ⊢
  generalize w₁.heap.size = p at hF ⊢
  clear hw w₁
  co_apply opsC_yld rfl (by rfl)
  intro w₁ hR
  replace hF := HN.rel hF hR
  clear hR
  refine ⟨_, _, _, yld_store (v := .agg #[.string { data := #[66, 65, 78, 75, 65] }, .slice (some ⟨bX, 0, none⟩) 1 cap]) rfl rfl rfl hF.str (Tryd.sizeOf61 _) (evSize _) rfl (by simp [Value.cells, Value.oneCell']), db_row (heap_lt hF.str) (fun _ _ _ => trivial) _, ?_⟩
  replace hF := HN.store (B' := #[.string { data := #[66, 65, 78, 75, 65] }, .slice (some ⟨bX, 0, none⟩) 1 cap]) hF
  walk_nrm
  simp only [Value.cells]
  generalize w₁.setRow _ _ = w₂ at hF ⊢
  clear w₁
  co_apply opsC_nil T
  co_then
  co_apply wpC_seq T
  co_apply wpC_seq T
  co_reg T
  co_apply opsC_yld rfl (by rfl)
  intro w₁ hR
  replace hF := HN.rel hF hR
  clear hR
  have hm : w₁.rangeAt p 0 [.string { data := #[66, 65, 78, 75, 65] }, .slice (some ⟨bX, 0, none⟩) 1 cap] := fun j v hv => by
    rw [cell_of_row _ _ _ _ _ _ hF.str, Nat.zero_add]
    simpa using hv
  refine ⟨_, _, _, yld_load rfl rfl hm (Tryd.isAgg61 _) (Tryd.sizeOf61 _) (evAgg _) (evSize _), db_read (heap_lt hF.str) (fun _ _ => trivial), ?_⟩
  clear hm
  walk_nrm
  co_apply opsC_call T rfl (by rfl) rfl
  focus (walk_nrm; exact hA sb so kc bX cap _ (hk.grew hF.hm.gr) (hF.hm.gr.range hM1))
  rintro v w' ⟨rfl, hs⟩
  replace hF := hF.trans hs
  clear hs
  walk_nrm
  co_op HN.rel hF (co_quiet T)
  co_apply opsC_nil T
  co_then
  co_apply wpC_seq T
  co_reg T
  co_op HN.rel hF (co_quiet T)
  co_op HN.rel hF (co_quiet T)
  co_apply opsC_nil T
  co_then
  co_apply wpC_cond T (t := false)
  focus (exact rfl)
  simp only [Bool.false_eq_true, if_false]
  co_apply wpC_skip T
  co_then
  co_apply wpC_seq T
  co_apply wpC_seq T
  co_reg T
  co_op HN.rel hF (co_quiet T)
  co_op HN.rel hF (co_quiet T)
  co_apply opsC_yld rfl (by rfl)
  intro w₁ hR
  replace hF := HN.rel hF hR
  clear hR
  refine ⟨_, _, _, yld_load1 (ad := ⟨p, 0, none⟩) (v := .string { data := #[66, 65, 78, 75, 65] }) rfl rfl (by rw [cell_of_row _ _ _ _ _ _ hF.str]; rfl) (Tryd.isAgg9 _) (evAgg _), db_read (heap_lt hF.str) (fun _ _ => trivial), ?_⟩
  walk_nrm
  co_apply opsC_yld rfl (by rfl)
  intro w₁ hR
  replace hF := HN.rel hF hR
  clear hR
  refine ⟨_, _, _, yld_lookup rfl rfl rfl hF.hm.mem (by kernel_rfl), db_obj (Nat.le_refl _) (heap_lt hF.hm.mem) (fun _ _ => trivial), ?_⟩
  walk_nrm
  co_apply opsC_nil T
  co_then
  co_apply wpC_cond T (t := false)
  focus (exact rfl)
  simp only [Bool.false_eq_true, if_false]
  co_apply wpC_skip T
  co_then
  co_apply wpC_seq T
  co_reg T
  co_op HN.rel hF (co_quiet T)
  co_op HN.rel hF (co_quiet T)
  co_apply opsC_yld rfl (by rfl)
  intro w₁ hR
  replace hF := HN.rel hF hR
  clear hR
  refine ⟨_, _, _, yld_load1 (ad := ⟨p, 0, none⟩) (v := .string { data := #[66, 65, 78, 75, 65] }) rfl rfl (by rw [cell_of_row _ _ _ _ _ _ hF.str]; rfl) (Tryd.isAgg9 _) (evAgg _), db_read (heap_lt hF.str) (fun _ _ => trivial), ?_⟩
  walk_nrm
  co_apply opsC_yld rfl (by rfl)
  intro w₁ hR
  replace hF := HN.rel hF hR
  clear hR
  refine ⟨_, _, _, yld_mapUpdate rfl rfl rfl rfl hF.hm.mem (by kernel_rfl), db_obj (by simp) (heap_lt hF.hm.mem) (fun _ _ => trivial), ?_⟩
  replace hF := HN.upd (es' := #[{ key := .string { data := #[66, 65, 78, 75, 66] }, val := .bool true, born := 0 }, { key := .string { data := #[66, 65, 78, 75, 65] }, val := .bool true, born := 1 }]) (c' := 2) hF
  walk_nrm
  change OpsC _ _ _ _ _ _ _ _ _ _ ({ w₁ with heap := w₁.heap.setIfInBounds mp (.map #[{ key := .string { data := #[66, 65, 78, 75, 66] }, val := .bool true, born := 0 }, { key := .string { data := #[66, 65, 78, 75, 65] }, val := .bool true, born := 1 }] 2) } : World)
  generalize ({ w₁ with heap := w₁.heap.setIfInBounds mp (.map #[{ key := .string { data := #[66, 65, 78, 75, 66] }, val := .bool true, born := 0 }, { key := .string { data := #[66, 65, 78, 75, 65] }, val := .bool true, born := 1 }] 2) } : World) = w₂ at hF ⊢
  clear w₁
  co_apply opsC_nil T
  co_then
  co_apply wpC_seq T
  co_reg T
  co_op HN.rel hF (co_quiet T)
  co_op HN.rel hF (co_quiet T)
  co_apply opsC_yld rfl (by rfl)
  intro w₁ hR
  replace hF := HN.rel hF hR
  clear hR
  refine ⟨_, _, _, yld_load1 (ad := ⟨p, 1, none⟩) (v := .slice (some ⟨bX, 0, none⟩) 1 cap) rfl rfl (by rw [cell_of_row _ _ _ _ _ _ hF.str]; rfl) (Tryd.isAgg27 _) (evAgg _), db_read (heap_lt hF.str) (fun _ _ => trivial), ?_⟩
  walk_nrm
  co_op HN.rel hF (co_quiet T)
  co_op HN.rel hF (co_quiet T)
  co_op HN.rel hF (co_quiet T)
  co_apply opsC_nil T
  co_then
  co_apply wpC_seq T
  co_reg T
  co_op HN.rel hF (co_quiet T)
  co_op HN.rel hF (co_quiet T)
  co_apply opsC_nil T
  co_then
  co_apply wpC_cond T (t := false)
  focus (exact rfl)
  simp only [Bool.false_eq_true, if_false]
  co_apply wpC_skip T
  co_then
  co_reg T
  co_op HN.rel hF (co_quiet T)
  co_op HN.rel hF (co_quiet T)
  co_apply opsC_nil T
  co_then
  rw [← hQ]
  exact hnext _ _ _ _ _ _ _ _ _ _ _ _ _ _ _ _ _ _ _ _ _ _ _ _ _ _ hF.hm
set_option maxRecDepth 100000 in
set_option maxHeartbeats 16000000 in
theorem all_ex : ∃ K, ∀ {Q : Exit → Act → World → Prop} {w0 : World} {mp bst capS sb so kc bX cap n : Nat} {v0 v1 v5 v8 v9 v10 v11 : Value} {x6 x7 x15 x16 x17 x18 x19 x20 x21 x22 x23 x24 x25 x26 x27 x28 x29 x30 x31 x32 x33 x34 x35 x36 x37 : Value} {w : World}, HM w0 mp #[{ key := .string { data := #[66, 65, 78, 75, 66] }, val := .bool true, born := 0 }, { key := .string { data := #[66, 65, 78, 75, 65] }, val := .bool true, born := 1 }] 2 w →
    (∀ (y6 y7 y15 y16 y17 y18 y19 y20 y21 y22 y23 y24 y25 y26 y27 y28 y29 y30 y31 y32 y33 y34 y35 y36 y37 : Value) (w' : World), HM w0 mp #[{ key := .string { data := #[66, 65, 78, 75, 66] }, val := .bool true, born := 0 }, { key := .string { data := #[66, 65, 78, 75, 65] }, val := .bool true, born := 1 }] 2 w' → Q (.exit 0) ⟨(v0 :: v1 :: .int .i64 0 :: .map (some mp) :: .int .i64 3 :: v5 :: y6 :: y7 :: v8 :: v9 :: v10 :: v11 :: .slice (some ⟨bst, 0, none⟩) 2 capS :: .int .i64 2 :: .int .i64 2 :: y15 :: y16 :: y17 :: y18 :: y19 :: y20 :: y21 :: y22 :: y23 :: y24 :: y25 :: y26 :: y27 :: y28 :: y29 :: y30 :: y31 :: y32 :: y33 :: y34 :: y35 :: y36 :: y37 :: []).toArray, []⟩ w') →
    LoopC Tryd.prog main AtRel D0 28 loopAll (0 + 1 + K) Q ⟨(v0 :: v1 :: .int .i64 0 :: .map (some mp) :: .int .i64 3 :: v5 :: x6 :: x7 :: v8 :: v9 :: v10 :: v11 :: .slice (some ⟨bst, 0, none⟩) 2 capS :: .int .i64 2 :: .int .i64 2 :: x15 :: x16 :: x17 :: x18 :: x19 :: x20 :: x21 :: x22 :: x23 :: x24 :: x25 :: x26 :: x27 :: x28 :: x29 :: x30 :: x31 :: x32 :: x33 :: x34 :: x35 :: x36 :: x37 :: []).toArray, []⟩ w := by
  have T := T0
  obtain ⟨nB, hB⟩ := strB_c (main := main)
  obtain ⟨nA, hA⟩ := strA_c (main := main)
  co_apply Exists.intro
  intro Q w0 mp bst capS sb so kc bX cap n v0 v1 v5 v8 v9 v10 v11 x6 x7 x15 x16 x17 x18 x19 x20 x21 x22 x23 x24 x25 x26 x27 x28 x29 x30 x31 x32 x33 x34 x35 x36 x37 w hF hnext
  co_apply loopC_round T
  generalize hQ : (fun a' w' => LoopC Tryd.prog main AtRel D0 28 loopAll 0 Q a' w') = Nx
  simp only [loopAll, bodyAll, Tryd.f28, Option.getD_some]
  co_apply wpC_seq T
  co_reg T
  co_op HM.rel hF (co_quiet T)
  co_apply opsC_nil T
  co_then
  co_apply wpC_seq T (n₂ := 0)
  co_apply wpC_cond T (t := false)
  focus (exact rfl)
  simp only [Bool.false_eq_true, if_false]
  co_apply wpC_exit T
  co_then
  exact hnext _ _ _ _ _ _ _ _ _ _ _ _ _ _ _ _ _ _ _ _ _ _ _ _ _ _ hF
end
end Go.Proofs.YtmmjlngbiilagaaDoor

/-
  checkAll AT THE EXAMPLE's STREAMS.
-/
namespace Go.Proofs.YtmmjlngbiilagaaDoor
open Go Go.Conc Go.RowKit Go.Lib

section
variable {main : Bool}
theorem HM.make {w0 w : World} (h : Grew w0 w) : HM w0 w.heap.size #[] 0 (w.alloc (.map #[] 0)) := ⟨h.alloc _, heap_alloc_new w _, h.size⟩
set_option maxRecDepth 100000 in
set_option maxHeartbeats 16000000 in
theorem checkAll_c : ∃ n, ∀ (sb so kc bst capS bB capB bA capA : Nat) (w : World), KindsAt sb so kc w →
    w.rangeAt bst 0 [.string { data := #[66, 65, 78, 75, 66] }, .slice (some ⟨bB, 0, none⟩) 2 capB] → w.rangeAt bst 2 [.string { data := #[66, 65, 78, 75, 65] }, .slice (some ⟨bA, 0, none⟩) 1 capA] → w.rangeAt bB 0 mB1.cells → w.rangeAt bB 4 mB2.cells → w.rangeAt bA 0 mA1.cells →
    CallsC Tryd.prog main AtRel D0 28 #[.slice (some ⟨bst, 0, none⟩) 2 capS] n w fun v w' => v = .int .i64 0 ∧ Grew w w' := by
  have T := T0
  obtain ⟨K0, h0⟩ := all_B (main := main)
  obtain ⟨K1, h1⟩ := all_A (main := main)
  obtain ⟨K2, h2⟩ := all_ex (main := main)
  co_apply Exists.intro
  intro sb so kc bst capS bB capB bA capA w0 hk hs0 hs1 hM1 hM2 hM3
  co_apply callsC_of_wpC Tryd.func28 (by rfl) rfl
  have hF : Grew w0 w0 := .refl w0
  simp only [Tryd.ntmps28, List.size_toArray, List.length_cons, List.length_nil, Nat.reduceAdd, Nat.reduceSub, Array.replicate_succ, Array.replicate_zero, List.push_toArray, List.append_toArray, List.nil_append, List.cons_append]
  co_apply wpC_seq T
  co_reg T
  co_op Grew.rel hF (co_quiet T)
  co_apply opsC_nil T
  co_then
  co_apply wpC_seq T
  co_apply wpC_seq T
  co_reg T
  co_op Grew.rel hF (co_quiet T)
  co_op Grew.rel hF (co_quiet T)
  co_op Grew.rel hF (co_quiet T)
  co_apply opsC_nil T
  co_then
  co_apply wpC_cond T (t := false)
  focus (exact rfl)
  simp only [Bool.false_eq_true, if_false]
  co_apply wpC_skip T
  co_then
  co_apply wpC_seq T
  co_reg T
  co_apply opsC_yld rfl (by rfl)
  intro w₁ hR
  replace hF := Grew.rel hF hR
  clear hR
  refine ⟨_, _, _, yld_makeMap rfl, db_new _, ?_⟩
  replace hF := HM.make hF
  walk_nrm
  generalize hw : w₁.alloc _ = w₂ at hF ⊢
  generalize w₁.heap.size = mp at hF ⊢
  clear hw w₁
  co_op HM.rel hF (co_quiet T)
  co_apply opsC_nil T
  co_then
  co_apply wpC_seq T
  co_reg T
  co_op HM.rel hF (co_quiet T)
  co_apply opsC_nil T
  co_then
  co_apply wpC_seq T
  co_apply wpC_seq T
  co_reg T
  co_op HM.rel hF (co_quiet T)
  co_op HM.rel hF (co_quiet T)
  co_op HM.rel hF (co_quiet T)
  co_apply opsC_nil T
  co_then
  co_apply wpC_block T
  co_apply wpC_loop_in T
  co_apply h0 hF hk hs0 hM1 hM2
  intro _ _ _ _ _ _ _ _ _ _ _ _ _ _ _ _ _ _ _ _ _ _ _ _ _ w1 hF
  co_apply h1 hF hk hs1 hM3
  intro _ _ _ _ _ _ _ _ _ _ _ _ _ _ _ _ _ _ _ _ _ _ _ _ _ w2 hF
  co_apply h2 hF (n := 0) (sb := 0) (so := 0) (kc := 0) (bX := 0) (cap := 0)
  intro _ _ _ _ _ _ _ _ _ _ _ _ _ _ _ _ _ _ _ _ _ _ _ _ _ w3 hF
  co_then
  co_apply wpC_seq T
  co_reg T
  co_op HM.rel hF (co_quiet T)
  co_apply opsC_nil T
  co_then
  co_apply wpC_ret T
  exact ⟨rfl, _, resultsC_tmp (by rfl) _, rfl, hF.gr⟩
end
end Go.Proofs.YtmmjlngbiilagaaDoor

/-
  FROM Merge's ENTRY TO ITS CHANNEL.
-/
namespace Go.Proofs.YtmmjlngbiilagaaDoor
open Go Go.Conc Go.RowKit Go.Conc.Lib Go.ConcR.Gen Go.Lib

/-- The streams of the example, in memory. -/
structure Strs (bst bB capB bA capA : Nat) (w : World) : Prop where
  s0 : w.rangeAt bst 0 [.string { data := #[66, 65, 78, 75, 66] }, .slice (some ⟨bB, 0, none⟩) 2 capB]
  s1 : w.rangeAt bst 2 [.string { data := #[66, 65, 78, 75, 65] }, .slice (some ⟨bA, 0, none⟩) 1 capA]
  b1 : w.rangeAt bB 0 mB1.cells
  b2 : w.rangeAt bB 4 mB2.cells
  a1 : w.rangeAt bA 0 mA1.cells
theorem Strs.grew {bst bB capB bA capA : Nat} {w w' : World} (h : Strs bst bB capB bA capA w) (g : Grew w w') : Strs bst bB capB bA capA w' := ⟨g.range h.s0, g.range h.s1, g.range h.b1, g.range h.b2, g.range h.a1⟩

set_option maxRecDepth 100000 in
set_option maxHeartbeats 8000000 in
theorem mergeIn : ∃ k, ∀ (sb so kc bst capS bB capB bA capA : Nat) (T1 T2 : Array Value) (W w : World), KindsAt sb so kc w → Strs bst bB capB bA capA w → T1.size = 50 → T2.size = 71 → T2[68]? = some (.bool true) → Grew W w →
    Goes Tryd.prog true AtRel D0 (ToFan Tryd.prog fun v w' => v = .bool true ∧ Kept W w') k
      (G ((base 19).at ⟨#[.slice (some ⟨bst, 0, none⟩) 2 capS, undef, undef, undef, undef, undef, undef, undef, undef, undef, undef, undef, undef, undef, undef, undef, undef, undef, undef, undef, undef, undef, undef, undef, undef, undef, undef, undef, undef, undef, undef], []⟩ [.code bodyM]) [cK T1, cG T2]) w := by
  obtain ⟨nc, hc⟩ := checkAll_c (main := true)
  refine ⟨30 + nc + 3 + 30, fun sb so kc bst capS bB capB bA capA T1 T2 W w hk hS h1 h2 h68 hW => ?_⟩
  have hF : Grew w w := .refl w
  simp only [bodyM, Tryd.f19, Option.getD_some]
  refine goes_bind0 (n := 30 + nc + 3) (m := 30) atRel_refl db_idle ?_
  u_c stepG_seq Grew.rel hF
  u_reg Grew.rel hF
  u_op Grew.rel hF
  u_op Grew.rel hF
  u_c stepG_region_end Grew.rel hF
  u_c stepG_seq Grew.rel hF
  u_c stepG_seq Grew.rel hF
  u_reg Grew.rel hF
  u_op Grew.rel hF
  refine Goes.stop (fun w₁ h₁ => ?_)
  replace hF := hF.rel h₁
  clear h₁
  refine Goes.call (m := 30) (nf := nc) (Post := fun v w' => v = .int .i64 0 ∧ Grew w₁ w') T0 rfl rfl (by decide) rfl ?_ ?_
  · walk_nrm
    exact hc sb so kc bst capS bB capB bA capA _ (hk.grew hF) (hS.grew hF).s0 (hS.grew hF).s1 (hS.grew hF).b1 (hS.grew hF).b2 (hS.grew hF).a1
  rintro v w' ⟨rfl, hg⟩
  replace hF := hF.trans hg
  clear hg
  walk_nrm
  refine goes_bind0 (n := 5) (m := 25) atRel_refl db_idle ?_
  u_op Grew.rel hF
  u_c stepG_region_end Grew.rel hF
  u_c stepG_seq Grew.rel hF
  u_reg Grew.rel hF
  u_op Grew.rel hF
  u_op Grew.rel hF
  u_c stepG_region_end Grew.rel hF
  u_cond false Grew.rel hF
  u_c stepG_skip Grew.rel hF
  refine Goes.stop (fun w₁ h₁ => ?_)
  replace hF := hF.rel h₁
  clear h₁
  refine Goes.stop (fun w₁ h₁ => ?_)
  replace hF := hF.rel h₁
  clear h₁
  have hS' := hS.grew hF
  exact toFanM _ rfl rfl h1 h2 h68 hS'.s0 hS'.s1 hS'.b1 hS'.b2 hS'.a1 (kept_grew (hW.trans hF))
end Go.Proofs.YtmmjlngbiilagaaDoor

/-
  known: FROM ITS ENTRY INTO Merge: laws.
-/
namespace Go.Proofs.YtmmjlngbiilagaaDoor
open Go Go.Conc Go.RowKit Go.Lib

section
variable {w : World} {o : Oper} {a : Act}
set_option maxRecDepth 100000 in
theorem yld_build34 {parts : Array (Nat × Operand)} {cells : Array Value} (ho : o.op = .build 34 parts) (hb : Tryd.prog.built 34 (parts.map fun (i, x) => (i, a.eval x)).toList = some cells) : Yld Tryd.prog o a w NoE (a.put o.dst (.agg cells)) w := by
  have hr := run_build (P := Tryd.prog) w 34 (parts.map fun (i, x) => (i, a.eval x)) cells hb
  have he : (Instr.build 34 (parts.map fun (i, x) => (i, a.eval x))).events Tryd.prog w #[] = #[] := by
    simp only [Instr.build, Sem.events_bind, Tryd.zeroValue34, evZero, Tryd.runUnderlying34, evUnd, Result.evThen_ok]
    simp [Sem.events_bind, Tryd.sizeOf3, Tryd.sizeOf9]
    split <;> simp
  refine yld_none ?_ ?_
  · unfold execOp
    simp only [ho]
    simp [hr]
  · unfold execOp
    simp only [ho]
    simp [he]
set_option maxRecDepth 100000 in
theorem yld_build61 {parts : Array (Nat × Operand)} {cells : Array Value} (ho : o.op = .build 61 parts) (hb : Tryd.prog.built 61 (parts.map fun (i, x) => (i, a.eval x)).toList = some cells) : Yld Tryd.prog o a w NoE (a.put o.dst (.agg cells)) w := by
  have hr := run_build (P := Tryd.prog) w 61 (parts.map fun (i, x) => (i, a.eval x)) cells hb
  have he : (Instr.build 61 (parts.map fun (i, x) => (i, a.eval x))).events Tryd.prog w #[] = #[] := by
    simp only [Instr.build, Sem.events_bind, Tryd.zeroValue61, evZero, Tryd.runUnderlying61, evUnd, Result.evThen_ok]
    simp [Sem.events_bind, Tryd.sizeOf9, Tryd.sizeOf27]
    split <;> simp
  refine yld_none ?_ ?_
  · unfold execOp
    simp only [ho]
    simp [hr]
  · unfold execOp
    simp only [ho]
    simp [he]
end
theorem info61 : (Tryd.prog.info? 61).map (fun i => (i.zero, i.size, i.bytes)) = some (some (.agg #[.string { data := #[] }, .slice none 0 0]), 2, 40) := by kernel_rfl
end Go.Proofs.YtmmjlngbiilagaaDoor

/-
  known: FROM ITS ENTRY INTO Merge.
-/
namespace Go.Proofs.YtmmjlngbiilagaaDoor
open Go Go.Conc Go.RowKit Go.Conc.Lib Go.ConcR.Gen Go.Lib

/-- What was laid out. -/
structure HKn (w0 : World) (l : List (Nat × List Value)) (w : World) : Prop where
  gr : Grew w0 w
  rows : ∀ x ∈ l, w.rangeAt x.1 0 x.2
section
variable {w0 w w' : World} {l : List (Nat × List Value)}
theorem HKn.grew (h : HKn w0 l w) (g : Grew w w') : HKn w0 l w' := ⟨h.gr.trans g, fun x hx => g.range (h.rows x hx)⟩
theorem HKn.rel (h : HKn w0 l w) (r : AtRel w w') : HKn w0 l w' := h.grew ((Grew.refl w).rel r)
theorem HKn.add (h : HKn w0 l w) (cells : Array Value) (t : TypeId) : HKn w0 ((w.heap.size, cells.toList) :: l) (w.alloc (.cells cells t)) :=
  ⟨h.gr.alloc _, fun x hx => by
    rcases List.mem_cons.1 hx with rfl | hx
    · intro j v hv
      rw [cell_of_row _ _ _ _ _ _ (heap_alloc_new w _), Nat.zero_add]
      simpa using hv
    · exact ((Grew.refl w).alloc _).range (h.rows x hx)⟩
end
def zM : Value := .agg #[.int .i64 0, .string { data := #[] }, .int .i64 0, .string { data := #[] }]
def zS : Value := .agg #[.string { data := #[] }, .slice none 0 0]
theorem fillM2 : Instr.fill (fun i => some (i * 4, 4)) ((Array.range (2 * 4)).map (zM.cells[· % zM.cells.size]!)) [(0, mB1.val), (1, mB2.val)] = some (mB1.cells ++ mB2.cells).toArray := by kernel_rfl
theorem fillM1 : Instr.fill (fun i => some (i * 4, 4)) ((Array.range (1 * 4)).map (zM.cells[· % zM.cells.size]!)) [(0, mA1.val)] = some mA1.cells.toArray := by kernel_rfl
theorem fillS2 (s1 s2 : ByteArray) (g1 g2 : Nat) : Instr.fill (fun i => some (i * 2, 2)) ((Array.range (2 * 2)).map (zS.cells[· % zS.cells.size]!)) [(0, .agg #[.string s1, .slice (some ⟨g1, 0, none⟩) 2 2]), (1, .agg #[.string s2, .slice (some ⟨g2, 0, none⟩) 1 1])] = some #[.string s1, .slice (some ⟨g1, 0, none⟩) 2 2, .string s2, .slice (some ⟨g2, 0, none⟩) 1 1] := by kernel_rfl
end Go.Proofs.YtmmjlngbiilagaaDoor

/-
  known: THE WALK INTO Merge.
-/
namespace Go.Proofs.YtmmjlngbiilagaaDoor
open Go Go.Conc Go.RowKit Go.Conc.Lib Go.ConcR.Gen Go.Lib

theorem range_left {w : World} {b o : Nat} {l l' : List Value} (h : w.rangeAt b o (l ++ l')) : w.rangeAt b o l := fun j v hv => h j v (by
  have hj : j < l.length := (List.getElem?_eq_some_iff.1 hv).1
  rw [List.getElem?_append_left hj]
  exact hv)
theorem range_right {w : World} {b o : Nat} {l l' : List Value} (h : w.rangeAt b o (l ++ l')) : w.rangeAt b (o + l.length) l' := fun j v hv => by
  have := h (l.length + j) v (by rw [List.getElem?_append_right (by omega)]; simpa using hv)
  rwa [← Nat.add_assoc] at this
set_option maxRecDepth 100000 in
set_option maxHeartbeats 8000000 in
theorem knownIn : ∃ k, ∀ (sb so kc : Nat) (T2 : Array Value) (W w : World), KindsAt sb so kc w → T2.size = 71 → T2[68]? = some (.bool true) → Grew W w →
    Goes Tryd.prog true AtRel D0 (ToFan Tryd.prog fun v w' => v = .bool true ∧ Kept W w') k
      (G ((base 12).at ⟨(undef :: undef :: undef :: undef :: undef :: undef :: undef :: undef :: undef :: undef :: undef :: undef :: undef :: undef :: undef :: undef :: undef :: undef :: undef :: undef :: undef :: undef :: undef :: undef :: undef :: undef :: undef :: undef :: undef :: undef :: undef :: undef :: undef :: undef :: undef :: undef :: undef :: undef :: undef :: undef :: undef :: undef :: undef :: undef :: undef :: undef :: undef :: undef :: undef :: undef :: []).toArray, []⟩ [.code bodyK]) [cG T2]) w := by
  obtain ⟨nm, hm⟩ := mergeIn
  refine ⟨nm + 1 + 8 + 10, fun sb so kc T2 W w hk h2 h68 hW => ?_⟩
  have hF : HKn w [] w := ⟨.refl w, by simp⟩
  simp only [bodyK, Tryd.f12, Option.getD_some]
  refine goes_bind0 (n := nm + 1 + 8) (m := 10) atRel_refl db_idle ?_
  u_c stepG_seq HKn.rel hF
  u_reg HKn.rel hF
  u_op HKn.rel hF
  u_c stepG_region_end HKn.rel hF
  u_c stepG_seq HKn.rel hF
  u_reg HKn.rel hF
  refine Goes.stop (fun w₁ h₁ => ?_)
  replace hF := hF.rel h₁
  clear h₁
  refine goes_mem (n := nm + 1 + 7) rfl rfl (by decide) (fun w₁ h₁ => ?_)
  replace hF := hF.rel h₁
  clear h₁
  refine ⟨_, _, _, yld_build34 (cells := #[.int .i64 0, .string { data := #[66, 65, 78, 75, 66] }, .int .i64 1, .string { data := #[] }]) rfl (by kernel_rfl), db_none, ?_⟩
  walk_nrm
  refine goes_mem (n := nm + 1 + 6) rfl rfl (by decide) (fun w₁ h₁ => ?_)
  replace hF := hF.rel h₁
  clear h₁
  refine ⟨_, _, _, yld_build34 (cells := #[.int .i64 2, .string { data := #[66, 65, 78, 75, 66] }, .int .i64 2, .string { data := #[] }]) rfl (by kernel_rfl), db_none, ?_⟩
  walk_nrm
  refine goes_mem (n := nm + 1 + 5) rfl rfl (by decide) (fun w₁ h₁ => ?_)
  replace hF := hF.rel h₁
  clear h₁
  obtain ⟨ie, hie, hiz, his, hib⟩ := info_parts3 info34
  refine ⟨_, _, _, yld_buildSlice (cells := (mB1.cells ++ mB2.cells).toArray) rfl Tryd.underlying27 hie hiz (by rw [his]; decide) (by rw [his]; decide) (by rw [his]; refine (congrArg (Instr.fill _ _) ?_).trans (fillM2); simp [Act.eval, M4.val, mB1, mB2, mA1, bankB, bankA, emptyS, M4.cells]), db_new _, ?_⟩
  replace hF := hF.add (mB1.cells ++ mB2.cells).toArray 34
  clear his hiz hie hib ie
  walk_nrm
  generalize hw : w₁.alloc _ = w₂ at hF ⊢
  generalize w₁.heap.size = g1 at hF ⊢
  clear hw w₁
  refine goes_mem (n := nm + 1 + 4) rfl rfl (by decide) (fun w₁ h₁ => ?_)
  replace hF := hF.rel h₁
  clear h₁
  refine ⟨_, _, _, yld_build61 (cells := #[.string { data := #[66, 65, 78, 75, 66] }, .slice (some ⟨g1, 0, none⟩) 2 2]) rfl (by kernel_rfl), db_none, ?_⟩
  walk_nrm
  refine goes_mem (n := nm + 1 + 3) rfl rfl (by decide) (fun w₁ h₁ => ?_)
  replace hF := hF.rel h₁
  clear h₁
  refine ⟨_, _, _, yld_build34 (cells := #[.int .i64 2, .string { data := #[66, 65, 78, 75, 65] }, .int .i64 1, .string { data := #[] }]) rfl (by kernel_rfl), db_none, ?_⟩
  walk_nrm
  refine goes_mem (n := nm + 1 + 2) rfl rfl (by decide) (fun w₁ h₁ => ?_)
  replace hF := hF.rel h₁
  clear h₁
  obtain ⟨ie, hie, hiz, his, hib⟩ := info_parts3 info34
  refine ⟨_, _, _, yld_buildSlice (cells := mA1.cells.toArray) rfl Tryd.underlying27 hie hiz (by rw [his]; decide) (by rw [his]; decide) (by rw [his]; refine (congrArg (Instr.fill _ _) ?_).trans (fillM1); simp [Act.eval, M4.val, mB1, mB2, mA1, bankB, bankA, emptyS, M4.cells]), db_new _, ?_⟩
  replace hF := hF.add mA1.cells.toArray 34
  clear his hiz hie hib ie
  walk_nrm
  generalize hw : w₁.alloc _ = w₂ at hF ⊢
  generalize w₁.heap.size = g2 at hF ⊢
  clear hw w₁
  refine goes_mem (n := nm + 1 + 1) rfl rfl (by decide) (fun w₁ h₁ => ?_)
  replace hF := hF.rel h₁
  clear h₁
  refine ⟨_, _, _, yld_build61 (cells := #[.string { data := #[66, 65, 78, 75, 65] }, .slice (some ⟨g2, 0, none⟩) 1 1]) rfl (by kernel_rfl), db_none, ?_⟩
  walk_nrm
  refine goes_mem (n := nm + 1 + 0) rfl rfl (by decide) (fun w₁ h₁ => ?_)
  replace hF := hF.rel h₁
  clear h₁
  obtain ⟨ie, hie, hiz, his, hib⟩ := info_parts3 info61
  refine ⟨_, _, _, yld_buildSlice (cells := #[.string { data := #[66, 65, 78, 75, 66] }, .slice (some ⟨g1, 0, none⟩) 2 2, .string { data := #[66, 65, 78, 75, 65] }, .slice (some ⟨g2, 0, none⟩) 1 1]) rfl Tryd.underlying62 hie hiz (by rw [his]; decide) (by rw [his]; decide) (by rw [his]; refine (congrArg (Instr.fill _ _) ?_).trans (fillS2 _ _ _ _); simp [Act.eval, M4.val, mB1, mB2, mA1, bankB, bankA, emptyS, M4.cells]), db_new _, ?_⟩
  replace hF := hF.add #[.string { data := #[66, 65, 78, 75, 66] }, .slice (some ⟨g1, 0, none⟩) 2 2, .string { data := #[66, 65, 78, 75, 65] }, .slice (some ⟨g2, 0, none⟩) 1 1] 61
  clear his hiz hie hib ie
  walk_nrm
  generalize hw : w₁.alloc _ = w₂ at hF ⊢
  generalize w₁.heap.size = g3 at hF ⊢
  clear hw w₁
  refine Goes.step rfl fun w₁ h₁ => goes_call rfl rfl (by decide) rfl Tryd.func19 (by rfl) rfl ⟨T0.idle _, ?_⟩
  replace hF := hF.rel h₁
  clear h₁
  walk_nrm
  simp only [Tryd.ntmps19, Nat.reduceSub, Array.replicate_succ, Array.replicate_zero, List.push_toArray, List.append_toArray, List.nil_append, List.cons_append]
  have r3 := hF.rows _ (List.mem_cons_self ..)
  have r2 := hF.rows _ (List.mem_cons_of_mem _ (List.mem_cons_self ..))
  have r1 := hF.rows _ (List.mem_cons_of_mem _ (List.mem_cons_of_mem _ (List.mem_cons_self ..)))
  have hS : Strs g3 g1 2 g2 1 w₁ := ⟨range_left (l' := [_, _]) r3, range_right (l := [_, _]) r3, range_left r1, range_right r1, r2⟩
  exact hm sb so kc g3 2 g1 2 g2 1 _ T2 W w₁ (hk.grew hF.gr) hS (by rfl) h2 h68 (hW.trans hF.gr)
end Go.Proofs.YtmmjlngbiilagaaDoor

/-
  GatewayNil: THE WALK INTO known.
-/
namespace Go.Proofs.YtmmjlngbiilagaaDoor
open Go Go.Conc Go.RowKit Go.Conc.Lib Go.ConcR.Gen Go.Lib

section
variable {w : World}
theorem run_eqNilI {P : Program} {t : TypeId} {ms : Array (String × TypeId)} (ht : P.underlying t = some (.interface ms)) : (Op.equal t .nilIface .nilIface).run P w = .ok true w := by
  have h : ∀ d : Nat, (Op.equalIn (d + 1) t .nilIface .nilIface).run P w = .ok true w := fun d => by
    simp [Op.equalIn, run_underlying ht]
  simp [Op.equal, Op.maxDepth, h 9999]
theorem ev_eqNilI {P : Program} {t : TypeId} {ms : Array (String × TypeId)} (ht : P.underlying t = some (.interface ms)) (es : Array Event) : (Op.equal t .nilIface .nilIface).events P w es = es := by
  have h : ∀ d : Nat, (Op.equalIn (d + 1) t .nilIface .nilIface).events P w es = es := fun d => by
    simp [Op.equalIn, Sem.events_bind, run_underlying ht]
  simp [Op.equal, Op.maxDepth, h 9999]
/-- A nil interface value compared with nil. -/
theorem yld_eqNilI {P : Program} {o : Oper} {a : Act} {t t' : TypeId} {ms : Array (String × TypeId)} {x : Operand} (ht : P.underlying t = some (.interface ms)) (ho : o.op = .binOp .eql t x (.const .nilIface) t') (hx : a.eval x = .nilIface) : Yld P o a w NoE (a.put o.dst (.bool true)) w := by
  have hc : a.eval (.const .nilIface) = .nilIface := rfl
  refine yld_none ?_ ?_
  · unfold execOp
    simp only [ho, hx, hc]
    simp [binOp, eqGuard, run_eqNilI ht]
  · unfold execOp
    simp only [ho, hx, hc]
    simp [binOp, eqGuard, ev_eqNilI ht]
end

set_option maxRecDepth 100000 in
set_option maxHeartbeats 16000000 in
theorem nilIn : ∃ k, ∀ (sb so kc : Nat) (x : M4) (w : World), KindsAt sb so kc w →
    Goes Tryd.prog true AtRel D0 (ToFan Tryd.prog fun v w' => v = .bool true ∧ Kept w w') k
      (G ((base 3).at ⟨(x.val :: undef :: undef :: undef :: undef :: undef :: undef :: undef :: undef :: undef :: undef :: undef :: undef :: undef :: undef :: undef :: undef :: undef :: undef :: undef :: undef :: undef :: undef :: undef :: undef :: undef :: undef :: undef :: undef :: undef :: undef :: undef :: undef :: undef :: undef :: undef :: undef :: undef :: undef :: undef :: undef :: undef :: undef :: undef :: undef :: undef :: undef :: undef :: undef :: undef :: undef :: undef :: undef :: undef :: undef :: undef :: undef :: undef :: undef :: undef :: undef :: undef :: undef :: undef :: undef :: undef :: undef :: undef :: undef :: undef :: undef :: []).toArray, []⟩ [.code bodyG]) []) w := by
  obtain ⟨nc, hc⟩ := close_c (main := true) T0
  obtain ⟨nn, hn⟩ := next_c (main := true) T0
  obtain ⟨ns, hs6⟩ := send_c (main := true)
  obtain ⟨nt, ht⟩ := tick_c (main := true) T0
  obtain ⟨nw, hw8⟩ := waiting_c (main := true) T0
  obtain ⟨nr, hr⟩ := rejErr_c (main := true) T0
  obtain ⟨nu, hu⟩ := unwrap_c (main := true) T0
  obtain ⟨ni, hi⟩ := invErr_c (main := true) T0
  obtain ⟨nk, hk12⟩ := knownIn
  obtain ⟨R22, hR22⟩ : ∃ N, N = nk + 1 := ⟨_, rfl⟩
  obtain ⟨R21, hR21⟩ : ∃ N, N = R22 + 10 := ⟨_, rfl⟩
  obtain ⟨R20, hR20⟩ : ∃ N, N = R21 + ni + 3 := ⟨_, rfl⟩
  obtain ⟨R19, hR19⟩ : ∃ N, N = R20 + 10 := ⟨_, rfl⟩
  obtain ⟨R18, hR18⟩ : ∃ N, N = R19 + 1 := ⟨_, rfl⟩
  obtain ⟨R17, hR17⟩ : ∃ N, N = R18 + nu + 3 := ⟨_, rfl⟩
  obtain ⟨R16, hR16⟩ : ∃ N, N = R17 + 10 := ⟨_, rfl⟩
  obtain ⟨R15, hR15⟩ : ∃ N, N = R16 + nr + 3 := ⟨_, rfl⟩
  obtain ⟨R14, hR14⟩ : ∃ N, N = R15 + 10 := ⟨_, rfl⟩
  obtain ⟨R13, hR13⟩ : ∃ N, N = R14 + nw + 3 := ⟨_, rfl⟩
  obtain ⟨R12, hR12⟩ : ∃ N, N = R13 + 10 := ⟨_, rfl⟩
  obtain ⟨R11, hR11⟩ : ∃ N, N = R12 + nt + 3 := ⟨_, rfl⟩
  obtain ⟨R10, hR10⟩ : ∃ N, N = R11 + 40 := ⟨_, rfl⟩
  obtain ⟨R9, hR9⟩ : ∃ N, N = R10 + ns + 3 := ⟨_, rfl⟩
  obtain ⟨R8, hR8⟩ : ∃ N, N = R9 + 1 := ⟨_, rfl⟩
  obtain ⟨R7, hR7⟩ : ∃ N, N = R8 + 20 := ⟨_, rfl⟩
  obtain ⟨R6, hR6⟩ : ∃ N, N = R7 + nn + 3 := ⟨_, rfl⟩
  obtain ⟨R5, hR5⟩ : ∃ N, N = R6 + 1 := ⟨_, rfl⟩
  obtain ⟨R4, hR4⟩ : ∃ N, N = R5 + 20 := ⟨_, rfl⟩
  obtain ⟨R3, hR3⟩ : ∃ N, N = R4 + nc + 3 := ⟨_, rfl⟩
  obtain ⟨R2, hR2⟩ : ∃ N, N = R3 + 40 := ⟨_, rfl⟩
  obtain ⟨R1, hR1⟩ : ∃ N, N = R2 + 1 := ⟨_, rfl⟩
  obtain ⟨R0, hR0⟩ : ∃ N, N = R1 + 5 := ⟨_, rfl⟩
  refine ⟨R0, fun sb so kc x w hk => ?_⟩
  have hF : Grew w w := .refl w
  simp only [bodyG, Tryd.f3, Option.getD_some]
  subst hR0
  refine goes_bind0 (n := R1) (m := 5) atRel_refl db_idle ?_
  u_c stepG_seq Grew.rel hF
  u_reg Grew.rel hF
  refine Goes.stop (fun w₁ h₁ => ?_)
  replace hF := Grew.rel hF h₁
  clear h₁
  subst hR1
  refine goes_mem (n := R2) rfl rfl (by decide) (fun w₁ h₁ => ?_)
  replace hF := Grew.rel hF h₁
  clear h₁
  refine ⟨_, _, _, yld_box rfl, db_new _, ?_⟩
  replace hF := HB.new (cells := x.val.cells) (t := 23) hF
  walk_nrm
  generalize hw : w₁.alloc _ = w₂ at hF ⊢
  generalize w₁.heap.size = q at hF ⊢
  clear hw w₁
  subst hR2
  refine goes_bind0 (n := R3) (m := 40) atRel_refl db_idle ?_
  u_op HB.rel hF
  u_c stepG_region_end HB.rel hF
  u_c stepG_seq HB.rel hF
  u_reg HB.rel hF
  u_op HB.rel hF
  u_c stepG_region_end HB.rel hF
  u_c stepG_seq HB.rel hF
  u_reg HB.rel hF
  u_op HB.rel hF
  u_c stepG_region_end HB.rel hF
  u_c stepG_seq HB.rel hF
  u_reg HB.rel hF
  u_op HB.rel hF
  u_c stepG_region_end HB.rel hF
  u_c stepG_seq HB.rel hF
  u_reg HB.rel hF
  u_op HB.rel hF
  refine Goes.stop (fun w₁ h₁ => ?_)
  replace hF := HB.rel hF h₁
  clear h₁
  subst hR3
  refine Goes.call (m := R4) (nf := nc) (Post := fun v w' => v = .tuple #[.slice none 0 0, .int .i64 1] ∧ Since AtRel w₁ w') T0 rfl rfl (by decide) rfl (by walk_nrm; exact hc _) ?_
  rintro v w' ⟨rfl, hs⟩
  replace hF := hs.elim (fun e => e ▸ hF) fun r => HB.rel hF r
  clear hs
  walk_nrm
  subst hR4
  refine goes_bind0 (n := R5) (m := 20) atRel_refl db_idle ?_
  u_op HB.rel hF
  u_op HB.rel hF
  u_op HB.rel hF
  u_op HB.rel hF
  u_op HB.rel hF
  u_c stepG_region_end HB.rel hF
  u_c stepG_seq HB.rel hF
  u_reg HB.rel hF
  u_op HB.rel hF
  u_op HB.rel hF
  refine Goes.stop (fun w₁ h₁ => ?_)
  replace hF := HB.rel hF h₁
  clear h₁
  subst hR5
  refine goes_mem (n := R6) rfl rfl (by decide) (fun w₁ h₁ => ?_)
  replace hF := HB.rel hF h₁
  clear h₁
  refine ⟨_, _, _, yld_load1 (ad := ⟨q, 1, none⟩) (v := .string x.m) rfl rfl (by rw [cell_of_row _ _ _ _ _ _ hF.blk]; rfl) (Tryd.isAgg9 _) (evAgg _), db_read (heap_lt hF.blk) (fun _ _ => trivial), ?_⟩
  walk_nrm
  subst hR6
  refine Goes.call (m := R7) (nf := nn) (Post := fun v w' => v = .tuple #[.int .i64 0, .int .i64 1] ∧ Since AtRel w₁ w') T0 rfl rfl (by decide) rfl (by walk_nrm; exact hn _ _) ?_
  rintro v w' ⟨rfl, hs⟩
  replace hF := hs.elim (fun e => e ▸ hF) fun r => HB.rel hF r
  clear hs
  walk_nrm
  subst hR7
  refine goes_bind0 (n := R8) (m := 20) atRel_refl db_idle ?_
  u_op HB.rel hF
  u_op HB.rel hF
  u_op HB.rel hF
  u_op HB.rel hF
  u_op HB.rel hF
  u_c stepG_region_end HB.rel hF
  u_c stepG_seq HB.rel hF
  u_reg HB.rel hF
  u_op HB.rel hF
  refine Goes.stop (fun w₁ h₁ => ?_)
  replace hF := HB.rel hF h₁
  clear h₁
  subst hR8
  refine goes_mem (n := R9) rfl rfl (by decide) (fun w₁ h₁ => ?_)
  replace hF := HB.rel hF h₁
  clear h₁
  have hm : w₁.rangeAt q 0 x.cells := fun j v hv => by
    rw [cell_of_row _ _ _ _ _ _ hF.blk, Nat.zero_add]
    simpa [M4.val, M4.cells, Value.cells] using hv
  refine ⟨_, _, _, yld_load rfl rfl hm (Tryd.isAgg23 _) (Tryd.sizeOf23 _) (evAgg _) (evSize _), db_read (heap_lt hF.blk) (fun _ _ => trivial), ?_⟩
  clear hm
  walk_nrm
  subst hR9
  refine Goes.call (m := R10) (nf := ns) (Post := fun v w' => v = .int .i64 1 ∧ Grew w₁ w') T0 rfl rfl (by decide) rfl (by walk_nrm; exact hs6 _ _) ?_
  rintro v w' ⟨rfl, hs⟩
  replace hF := HB.grew hF hs
  clear hs
  walk_nrm
  subst hR10
  refine goes_bind0 (n := R11) (m := 40) atRel_refl db_idle ?_
  u_op HB.rel hF
  u_op HB.rel hF
  u_op HB.rel hF
  u_op HB.rel hF
  u_op HB.rel hF
  u_op HB.rel hF
  u_op HB.rel hF
  u_op HB.rel hF
  u_op HB.rel hF
  u_op HB.rel hF
  u_op HB.rel hF
  u_op HB.rel hF
  u_op HB.rel hF
  u_op HB.rel hF
  u_op HB.rel hF
  u_op HB.rel hF
  u_op HB.rel hF
  u_op HB.rel hF
  u_op HB.rel hF
  u_op HB.rel hF
  refine Goes.stop (fun w₁ h₁ => ?_)
  replace hF := HB.rel hF h₁
  clear h₁
  subst hR11
  refine Goes.call (m := R12) (nf := nt) (Post := fun v w' => v = .int .i64 0 ∧ Since AtRel w₁ w') T0 rfl rfl (by decide) rfl (by walk_nrm; exact ht _) ?_
  rintro v w' ⟨rfl, hs⟩
  replace hF := hs.elim (fun e => e ▸ hF) fun r => HB.rel hF r
  clear hs
  walk_nrm
  subst hR12
  refine goes_bind0 (n := R13) (m := 10) atRel_refl db_idle ?_
  u_op HB.rel hF
  u_op HB.rel hF
  u_op HB.rel hF
  u_op HB.rel hF
  refine Goes.stop (fun w₁ h₁ => ?_)
  replace hF := HB.rel hF h₁
  clear h₁
  subst hR13
  refine Goes.call (m := R14) (nf := nw) (Post := fun v w' => v = .int .i64 0 ∧ Since AtRel w₁ w') T0 rfl rfl (by decide) rfl (by walk_nrm; exact hw8 _) ?_
  rintro v w' ⟨rfl, hs⟩
  replace hF := hs.elim (fun e => e ▸ hF) fun r => HB.rel hF r
  clear hs
  walk_nrm
  subst hR14
  refine goes_bind0 (n := R15) (m := 10) atRel_refl db_idle ?_
  u_op HB.rel hF
  u_op HB.rel hF
  u_op HB.rel hF
  u_op HB.rel hF
  refine Goes.stop (fun w₁ h₁ => ?_)
  replace hF := HB.rel hF h₁
  clear h₁
  subst hR15
  refine Goes.call (m := R16) (nf := nr) (Post := fun v w' => v = .string { data := #[103, 97, 116, 101, 119, 97, 121, 58, 32, 109, 101, 115, 115, 97, 103, 101, 32, 114, 101, 106, 101, 99, 116, 101, 100] } ∧ Since AtRel w₁ w') T0 rfl rfl (by decide) rfl (by walk_nrm; exact hr _) ?_
  rintro v w' ⟨rfl, hs⟩
  replace hF := hs.elim (fun e => e ▸ hF) fun r => HB.rel hF r
  clear hs
  walk_nrm
  subst hR16
  refine goes_bind0 (n := R17) (m := 10) atRel_refl db_idle ?_
  u_op HB.rel hF
  u_op HB.rel hF
  u_op HB.rel hF
  u_op HB.rel hF
  refine Goes.stop (fun w₁ h₁ => ?_)
  replace hF := HB.rel hF h₁
  clear h₁
  subst hR17
  refine Goes.call (m := R18) (nf := nu) (Post := fun v w' => v = .nilIface ∧ Since AtRel w₁ w') T0 rfl rfl (by decide) rfl (by walk_nrm; exact hu _) ?_
  rintro v w' ⟨rfl, hs⟩
  replace hF := hs.elim (fun e => e ▸ hF) fun r => HB.rel hF r
  clear hs
  walk_nrm
  subst hR18
  refine goes_mem (n := R19) rfl rfl (by decide) (fun w₁ h₁ => ?_)
  replace hF := HB.rel hF h₁
  clear h₁
  refine ⟨_, _, _, yld_eqNilI (ms := #[("Error", 36)]) (by kernel_rfl) rfl rfl, db_none, ?_⟩
  walk_nrm
  subst hR19
  refine goes_bind0 (n := R20) (m := 10) atRel_refl db_idle ?_
  u_op HB.rel hF
  u_op HB.rel hF
  u_op HB.rel hF
  refine Goes.stop (fun w₁ h₁ => ?_)
  replace hF := HB.rel hF h₁
  clear h₁
  subst hR20
  refine Goes.call (m := R21) (nf := ni) (Post := fun v w' => v = .string { data := #[103, 97, 116, 101, 119, 97, 121, 58, 32, 105, 110, 118, 97, 108, 105, 100, 32, 97, 114, 103, 117, 109, 101, 110, 116, 115] } ∧ Since AtRel w₁ w') T0 rfl rfl (by decide) rfl (by walk_nrm; exact hi _) ?_
  rintro v w' ⟨rfl, hs⟩
  replace hF := hs.elim (fun e => e ▸ hF) fun r => HB.rel hF r
  clear hs
  walk_nrm
  subst hR21
  refine goes_bind0 (n := R22) (m := 10) atRel_refl db_idle ?_
  u_op HB.rel hF
  u_op HB.rel hF
  u_op HB.rel hF
  refine Goes.stop (fun w₁ h₁ => ?_)
  replace hF := HB.rel hF h₁
  clear h₁
  subst hR22
  refine Goes.step rfl fun w₁ h₁ => goes_call rfl rfl (by decide) rfl Tryd.func12 (by rfl) rfl ⟨T0.idle _, ?_⟩
  replace hF := HB.rel hF h₁
  clear h₁
  walk_nrm
  simp only [Tryd.ntmps12, Nat.reduceSub, Array.replicate_succ, Array.replicate_zero, List.push_toArray, List.append_toArray, List.nil_append, List.cons_append]
  exact hk12 sb so kc _ w _ (hk.grew hF.gr) (by rfl) (by rfl) hF.gr
end Go.Proofs.YtmmjlngbiilagaaDoor

/-
  WHAT THE VARIABLE kinds HOLDS, out of what the row lays.
-/
namespace Go.Proofs.YtmmjlngbiilagaaDoor
open Go Go.RowKit Go.ChangeShapes Go.WideShapes Go.ChangeAt Go.Joins

section
variable {H : Type} {enc : TypeId × Value → H} {P : Program} {w : World} {base : Nat} {sp : Nat → Bool} {held : Bool}
theorem nilFunc_of_trod {fuel : Nat} {t : TypeId} {ps rs : Array TypeId} {va : Bool} {v : Value} {q : List MemPlace} (ht : P.underlying t = some (.func ps rs va)) (h : DataW.trod enc P w base sp held fuel t [v] = some (.nil, q)) : v = .nilFunc := by
  cases fuel with
  | zero => simp [DataW.trod] at h
  | succ n => cases v <;> simp_all [DataW.trod]
theorem cells2 {a : Addr} {c : List Value} (h : w.cells? base a 2 = some c) : ∃ u v, c = [u, v] ∧ w.cell? (a.add 0) = some u ∧ w.cell? (a.add 1) = some v := by
  unfold World.cells? at h
  split at h
  · simp only [List.range_succ, List.range_zero, List.nil_append, List.mapM_cons, List.mapM_nil, List.cons_append] at h
    cases h0 : w.cell? (a.add 0) with
    | none => simp [h0] at h
    | some u =>
      cases h1 : w.cell? (a.add 1) with
      | none => simp [h0, h1] at h
      | some v => simp [h0, h1] at h; exact ⟨u, v, h.symm, rfl, rfl⟩
  · cases h
end

def letterName : List UInt8 := [103, 105, 114, 111, 47, 105, 100, 101, 110, 116, 46, 108, 101, 116, 116, 101, 114]
def alnumName : List UInt8 := [103, 105, 114, 111, 47, 105, 100, 101, 110, 116, 46, 97, 108, 112, 104, 97, 110, 117, 109, 101, 114, 105, 99]

section
variable {W : World}
theorem und142 : Tryd.prog.underlying 142 = some (.slice 155) := by kernel_rfl
theorem und155 : Tryd.prog.underlying 155 = some (.struct #[⟨ "n", 3, 0, false, "", "giro/ident", 0⟩, ⟨ "is", 153, 1, false, "", "giro/ident", 8⟩]) := by kernel_rfl
/-- A stretch of a class: so many of such a sign. -/
theorem span_at {a : Addr} {n f0 : Nat} {k : Int} {b : UInt8} {r : List UInt8} {x : DataW (List UInt8) × List MemPlace}
    (hone : ((List.range Tryd.prog.funcs.size).filter fun f => (Tryd.prog.funcs[f]?).any (·.name.toUTF8.data.toList == b :: r)) = [f0])
    (h : (W.cells? 0 a (Tryd.prog.cellsOf 155)).bind (DataW.trod (funcToken Tryd.prog) Tryd.prog W 0 (fun _ => true) true n 155) = some x) (hx : x.1 = .agg [.lit (.int .i64 k), .held (b :: r)]) :
    W.cell? (a.add 0) = some (.int .i64 k) ∧ W.cell? (a.add 1) = some (.func (.func f0) #[] #[]) := by
  obtain ⟨c, hc, ht⟩ := Option.bind_eq_some_iff.1 h
  rw [show Tryd.prog.cellsOf 155 = 2 by kernel_rfl] at hc
  obtain ⟨u, v, rfl, hu, hv⟩ := cells2 hc
  obtain ⟨y0, y1, m, rfl, _, h0, h1⟩ := trod_struct2 und155 ht
  simp only [DataW.agg.injEq, List.cons.injEq, and_true] at hx
  rw [show Tryd.prog.cellsOf 3 = 1 by kernel_rfl] at h0
  rw [show Tryd.prog.cellsOf 153 = 1 by kernel_rfl] at h1
  obtain ⟨k', e1, rfl, _⟩ := DataW.trod_int Tryd.underlying3 (show DataW.trod _ _ _ _ _ _ _ 3 [u] = _ from h0)
  obtain ⟨z, q⟩ := y1
  obtain ⟨hx0, rfl⟩ := hx
  obtain rfl := func_of_trod (f0 := f0) (t := 153) (by kernel_rfl : Tryd.prog.underlying 153 = some (.func #[5] #[4] false)) hone (show DataW.trod _ _ _ _ _ _ _ 153 [v] = _ from h1)
  simp only [DataW.lit.injEq, Lit.int.injEq, true_and] at hx0
  subst hx0
  simp only [List.cons.injEq, and_true] at e1
  subst e1
  exact ⟨hu, hv⟩
theorem kind_struct : Tryd.prog.underlying 145 = some (.struct #[⟨ "shortest", 3, 0, false, "", "giro/ident", 0⟩, ⟨ "spans", 142, 1, false, "", "giro/ident", 8⟩, ⟨ "body", 3, 2, false, "", "giro/ident", 32⟩, ⟨ "check", 143, 3, false, "", "giro/ident", 40⟩]) := by kernel_rfl
theorem kinds_at (h : laidMetH Tryd.prog Rows.gatewayNilRow.laid W) : ∃ sb so kc, KindsAt sb so kc W := by
  obtain ⟨g, t, cs, fuel, p, hg, ht, hv, hd⟩ := laidMetH.funcs (n := "giro/ident.kinds") h (List.mem_cons_of_mem _ (List.mem_cons_of_mem _ (List.mem_cons_of_mem _ (List.mem_cons_self ..))))
  obtain rfl := Option.some.inj ((show Tryd.prog.globalNamed "giro/ident.kinds" = some 2 by kernel_rfl).symm.trans hg)
  obtain rfl := Option.some.inj ((show (Tryd.prog.globals[2]?).map (·.type) = some 146 by kernel_rfl).symm.trans ht)
  obtain ⟨xs, m, rfl, hx, hl, hn, hel⟩ := DataW.trod_array (by kernel_rfl : Tryd.prog.underlying 146 = some (.array 4 145)) hd
  rw [show Tryd.prog.cellsOf 146 = 16 by kernel_rfl] at hl
  have h1 := hel 1 (by decide)
  rw [show Tryd.prog.cellsOf 145 = 4 by kernel_rfl] at h1
  obtain ⟨x0, x1, x2, x3, rfl⟩ : ∃ x0 x1 x2 x3, xs = [x0, x1, x2, x3] := by
    match xs, hn with
    | [x0, x1, x2, x3], _ => exact ⟨x0, x1, x2, x3, rfl⟩
  have hx1 : x1.1 = .agg [.lit (.int .i64 4), .slice [.agg [.lit (.int .i64 1), .held letterName], .agg [.lit (.int .i64 7), .held alnumName]] [], .lit (.int .i64 0), .nil] := by
    have := (Prod.mk.inj hx).1
    simp only [DataW.funcsOut, DataW.funcsOutAll, List.map_cons, List.map_nil, DataW.agg.injEq, List.cons.injEq, beq_self_eq_true, if_true] at this
    exact this.2.1.symm
  obtain ⟨c0, c1, c2, c3, hcs⟩ : ∃ c0 c1 c2 c3, (cs.toList.drop (1 * 4)).take 4 = [c0, c1, c2, c3] := by
    have hlen : ((cs.toList.drop (1 * 4)).take 4).length = 4 := by simp only [List.length_take, List.length_drop, hl]; rfl
    match (cs.toList.drop (1 * 4)).take 4, hlen with
    | [c0, c1, c2, c3], _ => exact ⟨c0, c1, c2, c3, rfl⟩
  have hcell : ∀ j v, [c0, c1, c2, c3][j]? = some v → W.cell? ⟨2, 4 + j, none⟩ = some v := fun j v hj => by
    rw [World.var?_cell hg hv]
    rw [← hcs, List.getElem?_take] at hj
    split at hj
    · rw [List.getElem?_drop] at hj
      simpa using hj
    · cases hj
  rw [hcs] at h1
  obtain ⟨y0, y1, y2, y3, n, rfl, _, f0, f1, f2, f3⟩ := trod_struct4 kind_struct (show DataW.trod _ _ _ _ _ _ _ 145 [c0, c1, c2, c3] = some x1 from h1)
  simp only [DataW.agg.injEq, List.cons.injEq, and_true] at hx1
  obtain ⟨d0, d1, d2, d3⟩ := hx1
  rw [show Tryd.prog.cellsOf 3 = 1 by kernel_rfl] at f0 f2
  rw [show Tryd.prog.cellsOf 142 = 1 by kernel_rfl] at f1
  rw [show Tryd.prog.cellsOf 143 = 1 by kernel_rfl] at f3
  obtain ⟨k0, e0, rfl, _⟩ := DataW.trod_int Tryd.underlying3 (show DataW.trod _ _ _ _ _ _ _ 3 [c0] = _ from f0)
  obtain ⟨k2, e2, rfl, _⟩ := DataW.trod_int Tryd.underlying3 (show DataW.trod _ _ _ _ _ _ _ 3 [c2] = _ from f2)
  obtain ⟨z3, q3⟩ := y3
  obtain rfl := d3
  obtain rfl := nilFunc_of_trod (t := 143) (by kernel_rfl : Tryd.prog.underlying 143 = some (.func #[9] #[9] false)) (show DataW.trod _ _ _ _ _ _ _ 143 [c3] = _ from f3)
  simp only [List.cons.injEq, and_true] at e0 e2
  simp only [DataW.lit.injEq, Lit.int.injEq, true_and] at d0 d2
  subst e0 e2 d0 d2
  rcases DataW.trod_slice und142 (show DataW.trod _ _ _ _ _ _ _ 142 [c1] = _ from f1) with ⟨_, rfl⟩ | ⟨a, len, cap, elems, rest, n', _, ec, rfl, _, _, _, hle, hE, _⟩
  · cases d1
  simp only [DataW.slice.injEq] at d1
  obtain ⟨d1, _⟩ := d1
  simp only [List.cons.injEq, and_true] at ec
  subst ec
  obtain ⟨z0, z1, rfl⟩ : ∃ z0 z1, elems = [z0, z1] := by
    have := congrArg List.length d1
    simp only [List.length_map, List.length_cons, List.length_nil] at this
    match elems, this with
    | [z0, z1], _ => exact ⟨z0, z1, rfl⟩
  simp only [List.map_cons, List.map_nil, List.cons.injEq, and_true] at d1
  simp only [List.length_cons, List.length_nil] at hle
  subst hle
  have hc155 : Tryd.prog.cellsOf 155 = 2 := by kernel_rfl
  obtain ⟨s0, s1⟩ := span_at (f0 := 119) (by kernel_rfl) (hE 0 (by decide)) d1.1
  obtain ⟨s2, s3⟩ := span_at (f0 := 120) (by kernel_rfl) (hE 1 (by decide)) d1.2
  rw [hc155] at s0 s1 s2 s3
  obtain ⟨b, off, spot⟩ := a
  obtain rfl : spot = none := by simpa [Addr.add] using World.cell?_spot s0
  refine ⟨b, off, cap, ⟨fun j v hj => hcell j v (by simpa [kindV, Value.cells] using hj), fun j v hj => ?_⟩⟩
  have a2 : ∀ i j, ((⟨b, off, none⟩ : Addr).add i).add j = ⟨b, off + (i + j), none⟩ := fun i j => by rw [Addr.add_mid, Addr.add_mid, Nat.add_assoc]
  rw [a2] at s0 s1 s2 s3
  rcases j with _ | _ | _ | _ | j
  · simp at hj; subst hj; exact s0
  · simp at hj; subst hj; exact s1
  · simp at hj; subst hj; exact s2
  · simp at hj; subst hj; exact s3
  · simp at hj
end
end Go.Proofs.YtmmjlngbiilagaaDoor
