/-
  (Stream).Check AT THE EXAMPLE's MESSAGES: rounds.
-/
import Derived.Test.YtmmjlngbiilagaaDoorT13

namespace Go.Proofs.YtmmjlngbiilagaaDoor
open Go Go.Conc Go.RowKit Go.Lib

/-- The boxed stream and the message at hand. -/
structure HT (w0 : World) (q : Nat) (A : Array Value) (p : Nat) (B : Array Value) (w : World) : Prop where
  gr : Grew w0 w
  blk : w.heap[q]? = some (.cells A 61 (0, 0))
  msg : w.heap[p]? = some (.cells B 34 (0, 0))
  new : w0.heap.size ≤ p
  ne : q ≠ p
section
variable {w0 w w' : World} {q p : Nat} {A B : Array Value}
theorem HT.grew (h : HT w0 q A p B w) (g : Grew w w') : HT w0 q A p B w' := ⟨h.gr.trans g, (g.block q (heap_lt h.blk)).trans h.blk, (g.block p (heap_lt h.msg)).trans h.msg, h.new, h.ne⟩
theorem HT.rel (h : HT w0 q A p B w) (r : AtRel w w') : HT w0 q A p B w' := h.grew ((Grew.refl w).rel r)
theorem HT.hb (h : HT w0 q A p B w) : HB w0 q A 61 w := ⟨h.gr, h.blk⟩
theorem HB.msg (h : HB w0 q A 61 w) : HT w0 q A w.heap.size B (w.alloc (.cells B 34)) :=
  ⟨h.gr.alloc _, (heap_alloc_old w _ q (heap_lt h.blk)).trans h.blk, heap_alloc_new w _, h.gr.size, Nat.ne_of_lt (heap_lt h.blk)⟩
theorem HT.store {B' : Array Value} (h : HT w0 q A p B w) : HT w0 q A p B' (w.setRow p B') := by
  have ho : ∀ b, b ≠ p → (w.setRow p B').heap[b]? = w.heap[b]? := fun b hb => setRow_other w p b _ hb
  have := h.new
  exact ⟨⟨h.gr.tape, h.gr.os, h.gr.output, by simpa using h.gr.size, fun b hb => (ho b (by omega)).trans (h.gr.block b hb)⟩, (ho q h.ne).trans h.blk, setRow_heap w p _ _ _ _ h.msg, h.new, h.ne⟩
end
noncomputable def bodySt : Code := Tryd.f55.body.getD .skip
noncomputable def loopSt : Code := match bodySt with | .seq _ (.seq _ (.seq _ (.seq (.seq _ (.block _ (.loop c))) _))) => c | _ => .skip

section
variable {main : Bool}
set_option maxRecDepth 100000 in
set_option maxHeartbeats 8000000 in
theorem st_B1 : ∃ K, ∀ {Q : Exit → Act → World → Prop} {w0 : World} {q bX cap n : Nat} {v0 v6 v7 v8 v9 v10 v11 v12 v13 v14 v15 v16 : Value} {x4 x5 x20 x21 x22 x23 x24 x25 x26 x27 x28 x29 x30 x31 x32 x33 x34 x35 x36 x37 x38 x39 x40 x41 x42 x43 x44 x45 x46 x47 x48 x49 x50 x51 x52 x53 x54 x55 x56 x57 : Value} {w : World}, HB w0 q #[.string { data := #[66, 65, 78, 75, 66] }, .slice (some ⟨bX, 0, none⟩) 2 cap] 61 w → w0.rangeAt bX 0 mB1.cells →
    (∀ (y4 y5 y20 y21 y22 y23 y24 y25 y26 y27 y28 y29 y30 y31 y32 y33 y34 y35 y36 y37 y38 y39 y40 y41 y42 y43 y44 y45 y46 y47 y48 y49 y50 y51 y52 y53 y54 y55 y56 y57 : Value) (w' : World), HB w0 q #[.string { data := #[66, 65, 78, 75, 66] }, .slice (some ⟨bX, 0, none⟩) 2 cap] 61 w' → LoopC Tryd.prog main AtRel D0 55 loopSt n Q ⟨(v0 :: .pointer (some ⟨q, 0, none⟩) :: .int .i64 0 :: .int .i64 0 :: y4 :: y5 :: v6 :: v7 :: v8 :: v9 :: v10 :: v11 :: v12 :: v13 :: v14 :: v15 :: v16 :: .slice (some ⟨bX, 0, none⟩) 2 cap :: .int .i64 2 :: .int .i64 1 :: y20 :: y21 :: y22 :: y23 :: y24 :: y25 :: y26 :: y27 :: y28 :: y29 :: y30 :: y31 :: y32 :: y33 :: y34 :: y35 :: y36 :: y37 :: y38 :: y39 :: y40 :: y41 :: y42 :: y43 :: y44 :: y45 :: y46 :: y47 :: y48 :: y49 :: y50 :: y51 :: y52 :: y53 :: y54 :: y55 :: y56 :: y57 :: []).toArray, []⟩ w') →
    LoopC Tryd.prog main AtRel D0 55 loopSt (n + 1 + K) Q ⟨(v0 :: .pointer (some ⟨q, 0, none⟩) :: .int .i64 0 :: .int .i64 0 :: x4 :: x5 :: v6 :: v7 :: v8 :: v9 :: v10 :: v11 :: v12 :: v13 :: v14 :: v15 :: v16 :: .slice (some ⟨bX, 0, none⟩) 2 cap :: .int .i64 2 :: .int .i64 0 :: x20 :: x21 :: x22 :: x23 :: x24 :: x25 :: x26 :: x27 :: x28 :: x29 :: x30 :: x31 :: x32 :: x33 :: x34 :: x35 :: x36 :: x37 :: x38 :: x39 :: x40 :: x41 :: x42 :: x43 :: x44 :: x45 :: x46 :: x47 :: x48 :: x49 :: x50 :: x51 :: x52 :: x53 :: x54 :: x55 :: x56 :: x57 :: []).toArray, []⟩ w := by
  have T := T0
  co_apply Exists.intro
  intro Q w0 q bX cap n v0 v6 v7 v8 v9 v10 v11 v12 v13 v14 v15 v16 x4 x5 x20 x21 x22 x23 x24 x25 x26 x27 x28 x29 x30 x31 x32 x33 x34 x35 x36 x37 x38 x39 x40 x41 x42 x43 x44 x45 x46 x47 x48 x49 x50 x51 x52 x53 x54 x55 x56 x57 w hF hM hnext
  co_apply loopC_round T
  generalize hQ : (fun a' w' => LoopC Tryd.prog main AtRel D0 55 loopSt n Q a' w') = Nx
  simp only [loopSt, bodySt, Tryd.f55, Option.getD_some]
  co_apply wpC_seq T
  co_reg T
  co_op HB.rel hF (co_quiet T)
  co_apply opsC_nil T
  co_then
  co_apply wpC_seq T
  co_apply wpC_cond T (t := true)
  focus (exact rfl)
  simp only [if_true]
  co_apply wpC_skip T
  co_then
  co_apply wpC_seq T
  co_apply wpC_block T
  co_apply wpC_seq T
  co_reg T
  co_op HB.rel hF (co_quiet T)
  co_apply opsC_yld rfl (by rfl)
  intro w₁ hR
  replace hF := HB.rel hF hR
  clear hR
  refine ⟨_, _, _, yld_index27 (j := 0) (by decide) rfl rfl rfl, fun es h => ?_, ?_⟩
  focus exact T_none T h
  walk_nrm
  co_apply opsC_yld rfl (by rfl)
  intro w₁ hR
  replace hF := HB.rel hF hR
  clear hR
  have hm : w₁.rangeAt bX 0 [.int .i64 0, .string { data := #[66, 65, 78, 75, 66] }, .int .i64 1, .string { data := #[] }] := hF.gr.range hM
  refine ⟨_, _, _, yld_load rfl rfl hm (Tryd.isAgg34 _) (Tryd.sizeOf34 _) (evAgg _) (evSize _), db_read (World.block_lt_of_cell? _ _ (hm 0 _ rfl)) (fun _ _ => trivial), ?_⟩
  clear hm
  walk_nrm
  co_apply opsC_yld rfl (by rfl)
  intro w₁ hR
  replace hF := HB.rel hF hR
  clear hR
  refine ⟨_, _, _, yld_alloc rfl (Tryd.zeroValue34 _) (evZero _), db_new _, ?_⟩
  replace hF := HB.msg (B := (Value.agg #[.int .i64 0, .string { data := #[] }, .int .i64 0, .string { data := #[] }]).cells) hF
  walk_nrm
  generalize hw : w₁.alloc _ = w₂ at hF ⊢
  generalize w₁.heap.size = p at hF ⊢
  clear hw w₁
  co_op HT.rel hF (co_quiet T)
  co_apply opsC_yld rfl (by rfl)
  intro w₁ hR
  replace hF := HT.rel hF hR
  clear hR
  refine ⟨_, _, _, yld_store (v := .agg #[.int .i64 0, .string { data := #[66, 65, 78, 75, 66] }, .int .i64 1, .string { data := #[] }]) rfl rfl rfl hF.msg (Tryd.sizeOf34 _) (evSize _) rfl (by simp [Value.cells, Value.oneCell']), db_row (heap_lt hF.msg) (fun _ _ _ => trivial) _, ?_⟩
  replace hF := HT.store (B' := (Value.agg #[.int .i64 0, .string { data := #[66, 65, 78, 75, 66] }, .int .i64 1, .string { data := #[] }]).cells) hF
  walk_nrm
  generalize w₁.setRow _ _ = w₂ at hF ⊢
  clear w₁
  co_apply opsC_nil T
  co_then
  co_apply wpC_seq T
  co_apply wpC_block T
  co_apply wpC_seq T
  co_reg T
  co_op HT.rel hF (co_quiet T)
  co_apply opsC_yld rfl (by rfl)
  intro w₁ hR
  replace hF := HT.rel hF hR
  clear hR
  refine ⟨_, _, _, yld_load1 (ad := ⟨p, 1, none⟩) (v := .string { data := #[66, 65, 78, 75, 66] }) rfl rfl (by rw [cell_of_row _ _ _ _ _ _ hF.msg]; rfl) (Tryd.isAgg9 _) (evAgg _), db_read (heap_lt hF.msg) (fun _ _ => trivial), ?_⟩
  walk_nrm
  co_op HT.rel hF (co_quiet T)
  co_apply opsC_yld rfl (by rfl)
  intro w₁ hR
  replace hF := HT.rel hF hR
  clear hR
  refine ⟨_, _, _, yld_load1 (ad := ⟨q, 0, none⟩) (v := .string { data := #[66, 65, 78, 75, 66] }) rfl rfl (by rw [cell_of_row _ _ _ _ _ _ hF.blk]; rfl) (Tryd.isAgg9 _) (evAgg _), db_read (heap_lt hF.blk) (fun _ _ => trivial), ?_⟩
  walk_nrm
  co_op HT.rel hF (co_quiet T)
  co_op HT.rel hF (co_quiet T)
  co_apply opsC_nil T
  co_then
  co_apply wpC_cond T (t := false)
  focus (exact rfl)
  simp only [Bool.false_eq_true, if_false]
  co_apply wpC_seq T
  co_reg T
  co_op HT.rel hF (co_quiet T)
  co_apply opsC_yld rfl (by rfl)
  intro w₁ hR
  replace hF := HT.rel hF hR
  clear hR
  refine ⟨_, _, _, yld_load1 (ad := ⟨p, 0, none⟩) (v := .int .i64 0) rfl rfl (by rw [cell_of_row _ _ _ _ _ _ hF.msg]; rfl) (Tryd.isAgg3 _) (evAgg _), db_read (heap_lt hF.msg) (fun _ _ => trivial), ?_⟩
  walk_nrm
  co_op HT.rel hF (co_quiet T)
  co_op HT.rel hF (co_quiet T)
  co_op HT.rel hF (co_quiet T)
  co_apply opsC_yld rfl (by rfl)
  intro w₁ hR
  replace hF := HT.rel hF hR
  clear hR
  refine ⟨_, _, _, yld_load1 (ad := ⟨p, 0, none⟩) (v := .int .i64 0) rfl rfl (by rw [cell_of_row _ _ _ _ _ _ hF.msg]; rfl) (Tryd.isAgg3 _) (evAgg _), db_read (heap_lt hF.msg) (fun _ _ => trivial), ?_⟩
  walk_nrm
  co_op HT.rel hF (co_quiet T)
  co_op HT.rel hF (co_quiet T)
  co_op HT.rel hF (co_quiet T)
  co_apply opsC_nil T
  co_then
  co_apply wpC_cond T (t := false)
  focus (exact rfl)
  simp only [Bool.false_eq_true, if_false]
  co_apply wpC_seq T
  co_reg T
  co_op HT.rel hF (co_quiet T)
  co_apply opsC_yld rfl (by rfl)
  intro w₁ hR
  replace hF := HT.rel hF hR
  clear hR
  refine ⟨_, _, _, yld_load1 (ad := ⟨p, 0, none⟩) (v := .int .i64 0) rfl rfl (by rw [cell_of_row _ _ _ _ _ _ hF.msg]; rfl) (Tryd.isAgg3 _) (evAgg _), db_read (heap_lt hF.msg) (fun _ _ => trivial), ?_⟩
  walk_nrm
  co_op HT.rel hF (co_quiet T)
  co_op HT.rel hF (co_quiet T)
  co_op HT.rel hF (co_quiet T)
  co_apply opsC_nil T
  co_then
  co_apply wpC_cond T (t := false)
  focus (exact rfl)
  simp only [Bool.false_eq_true, if_false]
  co_apply wpC_seq T
  co_reg T
  co_op HT.rel hF (co_quiet T)
  co_apply opsC_yld rfl (by rfl)
  intro w₁ hR
  replace hF := HT.rel hF hR
  clear hR
  refine ⟨_, _, _, yld_load1 (ad := ⟨p, 2, none⟩) (v := .int .i64 1) rfl rfl (by rw [cell_of_row _ _ _ _ _ _ hF.msg]; rfl) (Tryd.isAgg3 _) (evAgg _), db_read (heap_lt hF.msg) (fun _ _ => trivial), ?_⟩
  walk_nrm
  co_op HT.rel hF (co_quiet T)
  co_op HT.rel hF (co_quiet T)
  co_op HT.rel hF (co_quiet T)
  co_op HT.rel hF (co_quiet T)
  co_apply opsC_nil T
  co_then
  co_apply wpC_cond T (t := false)
  focus (exact rfl)
  simp only [Bool.false_eq_true, if_false]
  co_apply wpC_seq T
  co_reg T
  co_op HT.rel hF (co_quiet T)
  co_apply opsC_yld rfl (by rfl)
  intro w₁ hR
  replace hF := HT.rel hF hR
  clear hR
  refine ⟨_, _, _, yld_load1 (ad := ⟨p, 3, none⟩) (v := .string { data := #[] }) rfl rfl (by rw [cell_of_row _ _ _ _ _ _ hF.msg]; rfl) (Tryd.isAgg9 _) (evAgg _), db_read (heap_lt hF.msg) (fun _ _ => trivial), ?_⟩
  walk_nrm
  co_apply opsC_yld rfl (by rfl)
  intro w₁ hR
  replace hF := HT.rel hF hR
  clear hR
  refine ⟨_, _, _, yld_lenStr rfl rfl, fun es h => ?_, ?_⟩
  focus exact T_none T h
  rw [show ((({ data := #[] } : ByteArray).size : Nat) : Int) = 0 from rfl]
  walk_nrm
  co_op HT.rel hF (co_quiet T)
  co_op HT.rel hF (co_quiet T)
  co_apply opsC_nil T
  co_then
  co_apply wpC_cond T (t := false)
  focus (exact rfl)
  simp only [Bool.false_eq_true, if_false]
  co_apply wpC_skip T
  co_then
  co_reg T
  co_op HT.rel hF (co_quiet T)
  co_apply opsC_yld rfl (by rfl)
  intro w₁ hR
  replace hF := HT.rel hF hR
  clear hR
  refine ⟨_, _, _, yld_load1 (ad := ⟨p, 0, none⟩) (v := .int .i64 0) rfl rfl (by rw [cell_of_row _ _ _ _ _ _ hF.msg]; rfl) (Tryd.isAgg3 _) (evAgg _), db_read (heap_lt hF.msg) (fun _ _ => trivial), ?_⟩
  walk_nrm
  co_op HT.rel hF (co_quiet T)
  co_apply opsC_nil T
  co_then
  co_reg T
  co_op HT.rel hF (co_quiet T)
  co_op HT.rel hF (co_quiet T)
  co_apply opsC_nil T
  co_then
  rw [← hQ]
  exact hnext _ _ _ _ _ _ _ _ _ _ _ _ _ _ _ _ _ _ _ _ _ _ _ _ _ _ _ _ _ _ _ _ _ _ _ _ _ _ _ _ _ hF.hb
set_option maxRecDepth 100000 in
set_option maxHeartbeats 8000000 in
theorem st_B2 : ∃ K, ∀ {Q : Exit → Act → World → Prop} {w0 : World} {q bX cap n : Nat} {v0 v6 v7 v8 v9 v10 v11 v12 v13 v14 v15 v16 : Value} {x4 x5 x20 x21 x22 x23 x24 x25 x26 x27 x28 x29 x30 x31 x32 x33 x34 x35 x36 x37 x38 x39 x40 x41 x42 x43 x44 x45 x46 x47 x48 x49 x50 x51 x52 x53 x54 x55 x56 x57 : Value} {w : World}, HB w0 q #[.string { data := #[66, 65, 78, 75, 66] }, .slice (some ⟨bX, 0, none⟩) 2 cap] 61 w → w0.rangeAt bX 4 mB2.cells →
    (∀ (y4 y5 y20 y21 y22 y23 y24 y25 y26 y27 y28 y29 y30 y31 y32 y33 y34 y35 y36 y37 y38 y39 y40 y41 y42 y43 y44 y45 y46 y47 y48 y49 y50 y51 y52 y53 y54 y55 y56 y57 : Value) (w' : World), HB w0 q #[.string { data := #[66, 65, 78, 75, 66] }, .slice (some ⟨bX, 0, none⟩) 2 cap] 61 w' → LoopC Tryd.prog main AtRel D0 55 loopSt n Q ⟨(v0 :: .pointer (some ⟨q, 0, none⟩) :: .int .i64 0 :: .int .i64 2 :: y4 :: y5 :: v6 :: v7 :: v8 :: v9 :: v10 :: v11 :: v12 :: v13 :: v14 :: v15 :: v16 :: .slice (some ⟨bX, 0, none⟩) 2 cap :: .int .i64 2 :: .int .i64 2 :: y20 :: y21 :: y22 :: y23 :: y24 :: y25 :: y26 :: y27 :: y28 :: y29 :: y30 :: y31 :: y32 :: y33 :: y34 :: y35 :: y36 :: y37 :: y38 :: y39 :: y40 :: y41 :: y42 :: y43 :: y44 :: y45 :: y46 :: y47 :: y48 :: y49 :: y50 :: y51 :: y52 :: y53 :: y54 :: y55 :: y56 :: y57 :: []).toArray, []⟩ w') →
    LoopC Tryd.prog main AtRel D0 55 loopSt (n + 1 + K) Q ⟨(v0 :: .pointer (some ⟨q, 0, none⟩) :: .int .i64 0 :: .int .i64 0 :: x4 :: x5 :: v6 :: v7 :: v8 :: v9 :: v10 :: v11 :: v12 :: v13 :: v14 :: v15 :: v16 :: .slice (some ⟨bX, 0, none⟩) 2 cap :: .int .i64 2 :: .int .i64 1 :: x20 :: x21 :: x22 :: x23 :: x24 :: x25 :: x26 :: x27 :: x28 :: x29 :: x30 :: x31 :: x32 :: x33 :: x34 :: x35 :: x36 :: x37 :: x38 :: x39 :: x40 :: x41 :: x42 :: x43 :: x44 :: x45 :: x46 :: x47 :: x48 :: x49 :: x50 :: x51 :: x52 :: x53 :: x54 :: x55 :: x56 :: x57 :: []).toArray, []⟩ w := by
  have T := T0
  co_apply Exists.intro
  intro Q w0 q bX cap n v0 v6 v7 v8 v9 v10 v11 v12 v13 v14 v15 v16 x4 x5 x20 x21 x22 x23 x24 x25 x26 x27 x28 x29 x30 x31 x32 x33 x34 x35 x36 x37 x38 x39 x40 x41 x42 x43 x44 x45 x46 x47 x48 x49 x50 x51 x52 x53 x54 x55 x56 x57 w hF hM hnext
  co_apply loopC_round T
  generalize hQ : (fun a' w' => LoopC Tryd.prog main AtRel D0 55 loopSt n Q a' w') = Nx
  simp only [loopSt, bodySt, Tryd.f55, Option.getD_some]
  co_apply wpC_seq T
  co_reg T
  co_op HB.rel hF (co_quiet T)
  co_apply opsC_nil T
  co_then
  co_apply wpC_seq T
  co_apply wpC_cond T (t := true)
  focus (exact rfl)
  simp only [if_true]
  co_apply wpC_skip T
  co_then
  co_apply wpC_seq T
  co_apply wpC_block T
  co_apply wpC_seq T
  co_reg T
  co_op HB.rel hF (co_quiet T)
  co_apply opsC_yld rfl (by rfl)
  intro w₁ hR
  replace hF := HB.rel hF hR
  clear hR
  refine ⟨_, _, _, yld_index27 (j := 1) (by decide) rfl rfl rfl, fun es h => ?_, ?_⟩
  focus exact T_none T h
  walk_nrm
  co_apply opsC_yld rfl (by rfl)
  intro w₁ hR
  replace hF := HB.rel hF hR
  clear hR
  have hm : w₁.rangeAt bX 4 [.int .i64 2, .string { data := #[66, 65, 78, 75, 66] }, .int .i64 2, .string { data := #[] }] := hF.gr.range hM
  refine ⟨_, _, _, yld_load rfl rfl hm (Tryd.isAgg34 _) (Tryd.sizeOf34 _) (evAgg _) (evSize _), db_read (World.block_lt_of_cell? _ _ (hm 0 _ rfl)) (fun _ _ => trivial), ?_⟩
  clear hm
  walk_nrm
  co_apply opsC_yld rfl (by rfl)
  intro w₁ hR
  replace hF := HB.rel hF hR
  clear hR
  refine ⟨_, _, _, yld_alloc rfl (Tryd.zeroValue34 _) (evZero _), db_new _, ?_⟩
  replace hF := HB.msg (B := (Value.agg #[.int .i64 0, .string { data := #[] }, .int .i64 0, .string { data := #[] }]).cells) hF
  walk_nrm
  generalize hw : w₁.alloc _ = w₂ at hF ⊢
  generalize w₁.heap.size = p at hF ⊢
  clear hw w₁
  co_op HT.rel hF (co_quiet T)
  co_apply opsC_yld rfl (by rfl)
  intro w₁ hR
  replace hF := HT.rel hF hR
  clear hR
  refine ⟨_, _, _, yld_store (v := .agg #[.int .i64 2, .string { data := #[66, 65, 78, 75, 66] }, .int .i64 2, .string { data := #[] }]) rfl rfl rfl hF.msg (Tryd.sizeOf34 _) (evSize _) rfl (by simp [Value.cells, Value.oneCell']), db_row (heap_lt hF.msg) (fun _ _ _ => trivial) _, ?_⟩
  replace hF := HT.store (B' := (Value.agg #[.int .i64 2, .string { data := #[66, 65, 78, 75, 66] }, .int .i64 2, .string { data := #[] }]).cells) hF
  walk_nrm
  generalize w₁.setRow _ _ = w₂ at hF ⊢
  clear w₁
  co_apply opsC_nil T
  co_then
  co_apply wpC_seq T
  co_apply wpC_block T
  co_apply wpC_seq T
  co_reg T
  co_op HT.rel hF (co_quiet T)
  co_apply opsC_yld rfl (by rfl)
  intro w₁ hR
  replace hF := HT.rel hF hR
  clear hR
  refine ⟨_, _, _, yld_load1 (ad := ⟨p, 1, none⟩) (v := .string { data := #[66, 65, 78, 75, 66] }) rfl rfl (by rw [cell_of_row _ _ _ _ _ _ hF.msg]; rfl) (Tryd.isAgg9 _) (evAgg _), db_read (heap_lt hF.msg) (fun _ _ => trivial), ?_⟩
  walk_nrm
  co_op HT.rel hF (co_quiet T)
  co_apply opsC_yld rfl (by rfl)
  intro w₁ hR
  replace hF := HT.rel hF hR
  clear hR
  refine ⟨_, _, _, yld_load1 (ad := ⟨q, 0, none⟩) (v := .string { data := #[66, 65, 78, 75, 66] }) rfl rfl (by rw [cell_of_row _ _ _ _ _ _ hF.blk]; rfl) (Tryd.isAgg9 _) (evAgg _), db_read (heap_lt hF.blk) (fun _ _ => trivial), ?_⟩
  walk_nrm
  co_op HT.rel hF (co_quiet T)
  co_op HT.rel hF (co_quiet T)
  co_apply opsC_nil T
  co_then
  co_apply wpC_cond T (t := false)
  focus (exact rfl)
  simp only [Bool.false_eq_true, if_false]
  co_apply wpC_seq T
  co_reg T
  co_op HT.rel hF (co_quiet T)
  co_apply opsC_yld rfl (by rfl)
  intro w₁ hR
  replace hF := HT.rel hF hR
  clear hR
  refine ⟨_, _, _, yld_load1 (ad := ⟨p, 0, none⟩) (v := .int .i64 2) rfl rfl (by rw [cell_of_row _ _ _ _ _ _ hF.msg]; rfl) (Tryd.isAgg3 _) (evAgg _), db_read (heap_lt hF.msg) (fun _ _ => trivial), ?_⟩
  walk_nrm
  co_op HT.rel hF (co_quiet T)
  co_op HT.rel hF (co_quiet T)
  co_op HT.rel hF (co_quiet T)
  co_apply opsC_yld rfl (by rfl)
  intro w₁ hR
  replace hF := HT.rel hF hR
  clear hR
  refine ⟨_, _, _, yld_load1 (ad := ⟨p, 0, none⟩) (v := .int .i64 2) rfl rfl (by rw [cell_of_row _ _ _ _ _ _ hF.msg]; rfl) (Tryd.isAgg3 _) (evAgg _), db_read (heap_lt hF.msg) (fun _ _ => trivial), ?_⟩
  walk_nrm
  co_op HT.rel hF (co_quiet T)
  co_op HT.rel hF (co_quiet T)
  co_op HT.rel hF (co_quiet T)
  co_apply opsC_nil T
  co_then
  co_apply wpC_cond T (t := false)
  focus (exact rfl)
  simp only [Bool.false_eq_true, if_false]
  co_apply wpC_seq T
  co_reg T
  co_op HT.rel hF (co_quiet T)
  co_apply opsC_yld rfl (by rfl)
  intro w₁ hR
  replace hF := HT.rel hF hR
  clear hR
  refine ⟨_, _, _, yld_load1 (ad := ⟨p, 0, none⟩) (v := .int .i64 2) rfl rfl (by rw [cell_of_row _ _ _ _ _ _ hF.msg]; rfl) (Tryd.isAgg3 _) (evAgg _), db_read (heap_lt hF.msg) (fun _ _ => trivial), ?_⟩
  walk_nrm
  co_op HT.rel hF (co_quiet T)
  co_op HT.rel hF (co_quiet T)
  co_op HT.rel hF (co_quiet T)
  co_apply opsC_nil T
  co_then
  co_apply wpC_cond T (t := false)
  focus (exact rfl)
  simp only [Bool.false_eq_true, if_false]
  co_apply wpC_seq T
  co_reg T
  co_op HT.rel hF (co_quiet T)
  co_apply opsC_yld rfl (by rfl)
  intro w₁ hR
  replace hF := HT.rel hF hR
  clear hR
  refine ⟨_, _, _, yld_load1 (ad := ⟨p, 2, none⟩) (v := .int .i64 2) rfl rfl (by rw [cell_of_row _ _ _ _ _ _ hF.msg]; rfl) (Tryd.isAgg3 _) (evAgg _), db_read (heap_lt hF.msg) (fun _ _ => trivial), ?_⟩
  walk_nrm
  co_op HT.rel hF (co_quiet T)
  co_op HT.rel hF (co_quiet T)
  co_op HT.rel hF (co_quiet T)
  co_op HT.rel hF (co_quiet T)
  co_apply opsC_nil T
  co_then
  co_apply wpC_cond T (t := false)
  focus (exact rfl)
  simp only [Bool.false_eq_true, if_false]
  co_apply wpC_seq T
  co_reg T
  co_op HT.rel hF (co_quiet T)
  co_apply opsC_yld rfl (by rfl)
  intro w₁ hR
  replace hF := HT.rel hF hR
  clear hR
  refine ⟨_, _, _, yld_load1 (ad := ⟨p, 3, none⟩) (v := .string { data := #[] }) rfl rfl (by rw [cell_of_row _ _ _ _ _ _ hF.msg]; rfl) (Tryd.isAgg9 _) (evAgg _), db_read (heap_lt hF.msg) (fun _ _ => trivial), ?_⟩
  walk_nrm
  co_apply opsC_yld rfl (by rfl)
  intro w₁ hR
  replace hF := HT.rel hF hR
  clear hR
  refine ⟨_, _, _, yld_lenStr rfl rfl, fun es h => ?_, ?_⟩
  focus exact T_none T h
  rw [show ((({ data := #[] } : ByteArray).size : Nat) : Int) = 0 from rfl]
  walk_nrm
  co_op HT.rel hF (co_quiet T)
  co_op HT.rel hF (co_quiet T)
  co_apply opsC_nil T
  co_then
  co_apply wpC_cond T (t := false)
  focus (exact rfl)
  simp only [Bool.false_eq_true, if_false]
  co_apply wpC_skip T
  co_then
  co_reg T
  co_op HT.rel hF (co_quiet T)
  co_apply opsC_yld rfl (by rfl)
  intro w₁ hR
  replace hF := HT.rel hF hR
  clear hR
  refine ⟨_, _, _, yld_load1 (ad := ⟨p, 0, none⟩) (v := .int .i64 2) rfl rfl (by rw [cell_of_row _ _ _ _ _ _ hF.msg]; rfl) (Tryd.isAgg3 _) (evAgg _), db_read (heap_lt hF.msg) (fun _ _ => trivial), ?_⟩
  walk_nrm
  co_op HT.rel hF (co_quiet T)
  co_apply opsC_nil T
  co_then
  co_reg T
  co_op HT.rel hF (co_quiet T)
  co_op HT.rel hF (co_quiet T)
  co_apply opsC_nil T
  co_then
  rw [← hQ]
  exact hnext _ _ _ _ _ _ _ _ _ _ _ _ _ _ _ _ _ _ _ _ _ _ _ _ _ _ _ _ _ _ _ _ _ _ _ _ _ _ _ _ _ hF.hb
set_option maxRecDepth 100000 in
set_option maxHeartbeats 8000000 in
theorem st_A1 : ∃ K, ∀ {Q : Exit → Act → World → Prop} {w0 : World} {q bX cap n : Nat} {v0 v6 v7 v8 v9 v10 v11 v12 v13 v14 v15 v16 : Value} {x4 x5 x20 x21 x22 x23 x24 x25 x26 x27 x28 x29 x30 x31 x32 x33 x34 x35 x36 x37 x38 x39 x40 x41 x42 x43 x44 x45 x46 x47 x48 x49 x50 x51 x52 x53 x54 x55 x56 x57 : Value} {w : World}, HB w0 q #[.string { data := #[66, 65, 78, 75, 65] }, .slice (some ⟨bX, 0, none⟩) 1 cap] 61 w → w0.rangeAt bX 0 mA1.cells →
    (∀ (y4 y5 y20 y21 y22 y23 y24 y25 y26 y27 y28 y29 y30 y31 y32 y33 y34 y35 y36 y37 y38 y39 y40 y41 y42 y43 y44 y45 y46 y47 y48 y49 y50 y51 y52 y53 y54 y55 y56 y57 : Value) (w' : World), HB w0 q #[.string { data := #[66, 65, 78, 75, 65] }, .slice (some ⟨bX, 0, none⟩) 1 cap] 61 w' → LoopC Tryd.prog main AtRel D0 55 loopSt n Q ⟨(v0 :: .pointer (some ⟨q, 0, none⟩) :: .int .i64 0 :: .int .i64 2 :: y4 :: y5 :: v6 :: v7 :: v8 :: v9 :: v10 :: v11 :: v12 :: v13 :: v14 :: v15 :: v16 :: .slice (some ⟨bX, 0, none⟩) 1 cap :: .int .i64 1 :: .int .i64 1 :: y20 :: y21 :: y22 :: y23 :: y24 :: y25 :: y26 :: y27 :: y28 :: y29 :: y30 :: y31 :: y32 :: y33 :: y34 :: y35 :: y36 :: y37 :: y38 :: y39 :: y40 :: y41 :: y42 :: y43 :: y44 :: y45 :: y46 :: y47 :: y48 :: y49 :: y50 :: y51 :: y52 :: y53 :: y54 :: y55 :: y56 :: y57 :: []).toArray, []⟩ w') →
    LoopC Tryd.prog main AtRel D0 55 loopSt (n + 1 + K) Q ⟨(v0 :: .pointer (some ⟨q, 0, none⟩) :: .int .i64 0 :: .int .i64 0 :: x4 :: x5 :: v6 :: v7 :: v8 :: v9 :: v10 :: v11 :: v12 :: v13 :: v14 :: v15 :: v16 :: .slice (some ⟨bX, 0, none⟩) 1 cap :: .int .i64 1 :: .int .i64 0 :: x20 :: x21 :: x22 :: x23 :: x24 :: x25 :: x26 :: x27 :: x28 :: x29 :: x30 :: x31 :: x32 :: x33 :: x34 :: x35 :: x36 :: x37 :: x38 :: x39 :: x40 :: x41 :: x42 :: x43 :: x44 :: x45 :: x46 :: x47 :: x48 :: x49 :: x50 :: x51 :: x52 :: x53 :: x54 :: x55 :: x56 :: x57 :: []).toArray, []⟩ w := by
  have T := T0
  co_apply Exists.intro
  intro Q w0 q bX cap n v0 v6 v7 v8 v9 v10 v11 v12 v13 v14 v15 v16 x4 x5 x20 x21 x22 x23 x24 x25 x26 x27 x28 x29 x30 x31 x32 x33 x34 x35 x36 x37 x38 x39 x40 x41 x42 x43 x44 x45 x46 x47 x48 x49 x50 x51 x52 x53 x54 x55 x56 x57 w hF hM hnext
  co_apply loopC_round T
  generalize hQ : (fun a' w' => LoopC Tryd.prog main AtRel D0 55 loopSt n Q a' w') = Nx
  simp only [loopSt, bodySt, Tryd.f55, Option.getD_some]
  co_apply wpC_seq T
  co_reg T
  co_op HB.rel hF (co_quiet T)
  co_apply opsC_nil T
  co_then
  co_apply wpC_seq T
  co_apply wpC_cond T (t := true)
  focus (exact rfl)
  simp only [if_true]
  co_apply wpC_skip T
  co_then
  co_apply wpC_seq T
  co_apply wpC_block T
  co_apply wpC_seq T
  co_reg T
  co_op HB.rel hF (co_quiet T)
  co_apply opsC_yld rfl (by rfl)
  intro w₁ hR
  replace hF := HB.rel hF hR
  clear hR
  refine ⟨_, _, _, yld_index27 (j := 0) (by decide) rfl rfl rfl, fun es h => ?_, ?_⟩
  focus exact T_none T h
  walk_nrm
  co_apply opsC_yld rfl (by rfl)
  intro w₁ hR
  replace hF := HB.rel hF hR
  clear hR
  have hm : w₁.rangeAt bX 0 [.int .i64 2, .string { data := #[66, 65, 78, 75, 65] }, .int .i64 1, .string { data := #[] }] := hF.gr.range hM
  refine ⟨_, _, _, yld_load rfl rfl hm (Tryd.isAgg34 _) (Tryd.sizeOf34 _) (evAgg _) (evSize _), db_read (World.block_lt_of_cell? _ _ (hm 0 _ rfl)) (fun _ _ => trivial), ?_⟩
  clear hm
  walk_nrm
  co_apply opsC_yld rfl (by rfl)
  intro w₁ hR
  replace hF := HB.rel hF hR
  clear hR
  refine ⟨_, _, _, yld_alloc rfl (Tryd.zeroValue34 _) (evZero _), db_new _, ?_⟩
  replace hF := HB.msg (B := (Value.agg #[.int .i64 0, .string { data := #[] }, .int .i64 0, .string { data := #[] }]).cells) hF
  walk_nrm
  generalize hw : w₁.alloc _ = w₂ at hF ⊢
  generalize w₁.heap.size = p at hF ⊢
  clear hw w₁
  co_op HT.rel hF (co_quiet T)
  co_apply opsC_yld rfl (by rfl)
  intro w₁ hR
  replace hF := HT.rel hF hR
  clear hR
  refine ⟨_, _, _, yld_store (v := .agg #[.int .i64 2, .string { data := #[66, 65, 78, 75, 65] }, .int .i64 1, .string { data := #[] }]) rfl rfl rfl hF.msg (Tryd.sizeOf34 _) (evSize _) rfl (by simp [Value.cells, Value.oneCell']), db_row (heap_lt hF.msg) (fun _ _ _ => trivial) _, ?_⟩
  replace hF := HT.store (B' := (Value.agg #[.int .i64 2, .string { data := #[66, 65, 78, 75, 65] }, .int .i64 1, .string { data := #[] }]).cells) hF
  walk_nrm
  generalize w₁.setRow _ _ = w₂ at hF ⊢
  clear w₁
  co_apply opsC_nil T
  co_then
  co_apply wpC_seq T
  co_apply wpC_block T
  co_apply wpC_seq T
  co_reg T
  co_op HT.rel hF (co_quiet T)
  co_apply opsC_yld rfl (by rfl)
  intro w₁ hR
  replace hF := HT.rel hF hR
  clear hR
  refine ⟨_, _, _, yld_load1 (ad := ⟨p, 1, none⟩) (v := .string { data := #[66, 65, 78, 75, 65] }) rfl rfl (by rw [cell_of_row _ _ _ _ _ _ hF.msg]; rfl) (Tryd.isAgg9 _) (evAgg _), db_read (heap_lt hF.msg) (fun _ _ => trivial), ?_⟩
  walk_nrm
  co_op HT.rel hF (co_quiet T)
  co_apply opsC_yld rfl (by rfl)
  intro w₁ hR
  replace hF := HT.rel hF hR
  clear hR
  refine ⟨_, _, _, yld_load1 (ad := ⟨q, 0, none⟩) (v := .string { data := #[66, 65, 78, 75, 65] }) rfl rfl (by rw [cell_of_row _ _ _ _ _ _ hF.blk]; rfl) (Tryd.isAgg9 _) (evAgg _), db_read (heap_lt hF.blk) (fun _ _ => trivial), ?_⟩
  walk_nrm
  co_op HT.rel hF (co_quiet T)
  co_op HT.rel hF (co_quiet T)
  co_apply opsC_nil T
  co_then
  co_apply wpC_cond T (t := false)
  focus (exact rfl)
  simp only [Bool.false_eq_true, if_false]
  co_apply wpC_seq T
  co_reg T
  co_op HT.rel hF (co_quiet T)
  co_apply opsC_yld rfl (by rfl)
  intro w₁ hR
  replace hF := HT.rel hF hR
  clear hR
  refine ⟨_, _, _, yld_load1 (ad := ⟨p, 0, none⟩) (v := .int .i64 2) rfl rfl (by rw [cell_of_row _ _ _ _ _ _ hF.msg]; rfl) (Tryd.isAgg3 _) (evAgg _), db_read (heap_lt hF.msg) (fun _ _ => trivial), ?_⟩
  walk_nrm
  co_op HT.rel hF (co_quiet T)
  co_op HT.rel hF (co_quiet T)
  co_op HT.rel hF (co_quiet T)
  co_apply opsC_yld rfl (by rfl)
  intro w₁ hR
  replace hF := HT.rel hF hR
  clear hR
  refine ⟨_, _, _, yld_load1 (ad := ⟨p, 0, none⟩) (v := .int .i64 2) rfl rfl (by rw [cell_of_row _ _ _ _ _ _ hF.msg]; rfl) (Tryd.isAgg3 _) (evAgg _), db_read (heap_lt hF.msg) (fun _ _ => trivial), ?_⟩
  walk_nrm
  co_op HT.rel hF (co_quiet T)
  co_op HT.rel hF (co_quiet T)
  co_op HT.rel hF (co_quiet T)
  co_apply opsC_nil T
  co_then
  co_apply wpC_cond T (t := false)
  focus (exact rfl)
  simp only [Bool.false_eq_true, if_false]
  co_apply wpC_seq T
  co_reg T
  co_op HT.rel hF (co_quiet T)
  co_apply opsC_yld rfl (by rfl)
  intro w₁ hR
  replace hF := HT.rel hF hR
  clear hR
  refine ⟨_, _, _, yld_load1 (ad := ⟨p, 0, none⟩) (v := .int .i64 2) rfl rfl (by rw [cell_of_row _ _ _ _ _ _ hF.msg]; rfl) (Tryd.isAgg3 _) (evAgg _), db_read (heap_lt hF.msg) (fun _ _ => trivial), ?_⟩
  walk_nrm
  co_op HT.rel hF (co_quiet T)
  co_op HT.rel hF (co_quiet T)
  co_op HT.rel hF (co_quiet T)
  co_apply opsC_nil T
  co_then
  co_apply wpC_cond T (t := false)
  focus (exact rfl)
  simp only [Bool.false_eq_true, if_false]
  co_apply wpC_seq T
  co_reg T
  co_op HT.rel hF (co_quiet T)
  co_apply opsC_yld rfl (by rfl)
  intro w₁ hR
  replace hF := HT.rel hF hR
  clear hR
  refine ⟨_, _, _, yld_load1 (ad := ⟨p, 2, none⟩) (v := .int .i64 1) rfl rfl (by rw [cell_of_row _ _ _ _ _ _ hF.msg]; rfl) (Tryd.isAgg3 _) (evAgg _), db_read (heap_lt hF.msg) (fun _ _ => trivial), ?_⟩
  walk_nrm
  co_op HT.rel hF (co_quiet T)
  co_op HT.rel hF (co_quiet T)
  co_op HT.rel hF (co_quiet T)
  co_op HT.rel hF (co_quiet T)
  co_apply opsC_nil T
  co_then
  co_apply wpC_cond T (t := false)
  focus (exact rfl)
  simp only [Bool.false_eq_true, if_false]
  co_apply wpC_seq T
  co_reg T
  co_op HT.rel hF (co_quiet T)
  co_apply opsC_yld rfl (by rfl)
  intro w₁ hR
  replace hF := HT.rel hF hR
  clear hR
  refine ⟨_, _, _, yld_load1 (ad := ⟨p, 3, none⟩) (v := .string { data := #[] }) rfl rfl (by rw [cell_of_row _ _ _ _ _ _ hF.msg]; rfl) (Tryd.isAgg9 _) (evAgg _), db_read (heap_lt hF.msg) (fun _ _ => trivial), ?_⟩
  walk_nrm
  co_apply opsC_yld rfl (by rfl)
  intro w₁ hR
  replace hF := HT.rel hF hR
  clear hR
  refine ⟨_, _, _, yld_lenStr rfl rfl, fun es h => ?_, ?_⟩
  focus exact T_none T h
  rw [show ((({ data := #[] } : ByteArray).size : Nat) : Int) = 0 from rfl]
  walk_nrm
  co_op HT.rel hF (co_quiet T)
  co_op HT.rel hF (co_quiet T)
  co_apply opsC_nil T
  co_then
  co_apply wpC_cond T (t := false)
  focus (exact rfl)
  simp only [Bool.false_eq_true, if_false]
  co_apply wpC_skip T
  co_then
  co_reg T
  co_op HT.rel hF (co_quiet T)
  co_apply opsC_yld rfl (by rfl)
  intro w₁ hR
  replace hF := HT.rel hF hR
  clear hR
  refine ⟨_, _, _, yld_load1 (ad := ⟨p, 0, none⟩) (v := .int .i64 2) rfl rfl (by rw [cell_of_row _ _ _ _ _ _ hF.msg]; rfl) (Tryd.isAgg3 _) (evAgg _), db_read (heap_lt hF.msg) (fun _ _ => trivial), ?_⟩
  walk_nrm
  co_op HT.rel hF (co_quiet T)
  co_apply opsC_nil T
  co_then
  co_reg T
  co_op HT.rel hF (co_quiet T)
  co_op HT.rel hF (co_quiet T)
  co_apply opsC_nil T
  co_then
  rw [← hQ]
  exact hnext _ _ _ _ _ _ _ _ _ _ _ _ _ _ _ _ _ _ _ _ _ _ _ _ _ _ _ _ _ _ _ _ _ _ _ _ _ _ _ _ _ hF.hb
set_option maxRecDepth 100000 in
set_option maxHeartbeats 8000000 in
theorem st_exB : ∃ K, ∀ {Q : Exit → Act → World → Prop} {w0 : World} {q bX cap n : Nat} {v0 v6 v7 v8 v9 v10 v11 v12 v13 v14 v15 v16 : Value} {x4 x5 x20 x21 x22 x23 x24 x25 x26 x27 x28 x29 x30 x31 x32 x33 x34 x35 x36 x37 x38 x39 x40 x41 x42 x43 x44 x45 x46 x47 x48 x49 x50 x51 x52 x53 x54 x55 x56 x57 : Value} {w : World}, HB w0 q #[.string { data := #[66, 65, 78, 75, 66] }, .slice (some ⟨bX, 0, none⟩) 2 cap] 61 w →
    (∀ (y4 y5 y20 y21 y22 y23 y24 y25 y26 y27 y28 y29 y30 y31 y32 y33 y34 y35 y36 y37 y38 y39 y40 y41 y42 y43 y44 y45 y46 y47 y48 y49 y50 y51 y52 y53 y54 y55 y56 y57 : Value) (w' : World), HB w0 q #[.string { data := #[66, 65, 78, 75, 66] }, .slice (some ⟨bX, 0, none⟩) 2 cap] 61 w' → Q (.exit 1) ⟨(v0 :: .pointer (some ⟨q, 0, none⟩) :: .int .i64 0 :: .int .i64 2 :: y4 :: y5 :: v6 :: v7 :: v8 :: v9 :: v10 :: v11 :: v12 :: v13 :: v14 :: v15 :: v16 :: .slice (some ⟨bX, 0, none⟩) 2 cap :: .int .i64 2 :: .int .i64 2 :: y20 :: y21 :: y22 :: y23 :: y24 :: y25 :: y26 :: y27 :: y28 :: y29 :: y30 :: y31 :: y32 :: y33 :: y34 :: y35 :: y36 :: y37 :: y38 :: y39 :: y40 :: y41 :: y42 :: y43 :: y44 :: y45 :: y46 :: y47 :: y48 :: y49 :: y50 :: y51 :: y52 :: y53 :: y54 :: y55 :: y56 :: y57 :: []).toArray, []⟩ w') →
    LoopC Tryd.prog main AtRel D0 55 loopSt (0 + 1 + K) Q ⟨(v0 :: .pointer (some ⟨q, 0, none⟩) :: .int .i64 0 :: .int .i64 2 :: x4 :: x5 :: v6 :: v7 :: v8 :: v9 :: v10 :: v11 :: v12 :: v13 :: v14 :: v15 :: v16 :: .slice (some ⟨bX, 0, none⟩) 2 cap :: .int .i64 2 :: .int .i64 2 :: x20 :: x21 :: x22 :: x23 :: x24 :: x25 :: x26 :: x27 :: x28 :: x29 :: x30 :: x31 :: x32 :: x33 :: x34 :: x35 :: x36 :: x37 :: x38 :: x39 :: x40 :: x41 :: x42 :: x43 :: x44 :: x45 :: x46 :: x47 :: x48 :: x49 :: x50 :: x51 :: x52 :: x53 :: x54 :: x55 :: x56 :: x57 :: []).toArray, []⟩ w := by
  have T := T0
  co_apply Exists.intro
  intro Q w0 q bX cap n v0 v6 v7 v8 v9 v10 v11 v12 v13 v14 v15 v16 x4 x5 x20 x21 x22 x23 x24 x25 x26 x27 x28 x29 x30 x31 x32 x33 x34 x35 x36 x37 x38 x39 x40 x41 x42 x43 x44 x45 x46 x47 x48 x49 x50 x51 x52 x53 x54 x55 x56 x57 w hF hnext
  co_apply loopC_round T
  generalize hQ : (fun a' w' => LoopC Tryd.prog main AtRel D0 55 loopSt 0 Q a' w') = Nx
  simp only [loopSt, bodySt, Tryd.f55, Option.getD_some]
  co_apply wpC_seq T
  co_reg T
  co_op HB.rel hF (co_quiet T)
  co_apply opsC_nil T
  co_then
  co_apply wpC_seq T (n₂ := 0)
  co_apply wpC_cond T (t := false)
  focus (exact rfl)
  simp only [Bool.false_eq_true, if_false]
  co_apply wpC_exit T
  co_then
  exact hnext _ _ _ _ _ _ _ _ _ _ _ _ _ _ _ _ _ _ _ _ _ _ _ _ _ _ _ _ _ _ _ _ _ _ _ _ _ _ _ _ _ hF
set_option maxRecDepth 100000 in
set_option maxHeartbeats 8000000 in
theorem st_exA : ∃ K, ∀ {Q : Exit → Act → World → Prop} {w0 : World} {q bX cap n : Nat} {v0 v6 v7 v8 v9 v10 v11 v12 v13 v14 v15 v16 : Value} {x4 x5 x20 x21 x22 x23 x24 x25 x26 x27 x28 x29 x30 x31 x32 x33 x34 x35 x36 x37 x38 x39 x40 x41 x42 x43 x44 x45 x46 x47 x48 x49 x50 x51 x52 x53 x54 x55 x56 x57 : Value} {w : World}, HB w0 q #[.string { data := #[66, 65, 78, 75, 65] }, .slice (some ⟨bX, 0, none⟩) 1 cap] 61 w →
    (∀ (y4 y5 y20 y21 y22 y23 y24 y25 y26 y27 y28 y29 y30 y31 y32 y33 y34 y35 y36 y37 y38 y39 y40 y41 y42 y43 y44 y45 y46 y47 y48 y49 y50 y51 y52 y53 y54 y55 y56 y57 : Value) (w' : World), HB w0 q #[.string { data := #[66, 65, 78, 75, 65] }, .slice (some ⟨bX, 0, none⟩) 1 cap] 61 w' → Q (.exit 1) ⟨(v0 :: .pointer (some ⟨q, 0, none⟩) :: .int .i64 0 :: .int .i64 2 :: y4 :: y5 :: v6 :: v7 :: v8 :: v9 :: v10 :: v11 :: v12 :: v13 :: v14 :: v15 :: v16 :: .slice (some ⟨bX, 0, none⟩) 1 cap :: .int .i64 1 :: .int .i64 1 :: y20 :: y21 :: y22 :: y23 :: y24 :: y25 :: y26 :: y27 :: y28 :: y29 :: y30 :: y31 :: y32 :: y33 :: y34 :: y35 :: y36 :: y37 :: y38 :: y39 :: y40 :: y41 :: y42 :: y43 :: y44 :: y45 :: y46 :: y47 :: y48 :: y49 :: y50 :: y51 :: y52 :: y53 :: y54 :: y55 :: y56 :: y57 :: []).toArray, []⟩ w') →
    LoopC Tryd.prog main AtRel D0 55 loopSt (0 + 1 + K) Q ⟨(v0 :: .pointer (some ⟨q, 0, none⟩) :: .int .i64 0 :: .int .i64 2 :: x4 :: x5 :: v6 :: v7 :: v8 :: v9 :: v10 :: v11 :: v12 :: v13 :: v14 :: v15 :: v16 :: .slice (some ⟨bX, 0, none⟩) 1 cap :: .int .i64 1 :: .int .i64 1 :: x20 :: x21 :: x22 :: x23 :: x24 :: x25 :: x26 :: x27 :: x28 :: x29 :: x30 :: x31 :: x32 :: x33 :: x34 :: x35 :: x36 :: x37 :: x38 :: x39 :: x40 :: x41 :: x42 :: x43 :: x44 :: x45 :: x46 :: x47 :: x48 :: x49 :: x50 :: x51 :: x52 :: x53 :: x54 :: x55 :: x56 :: x57 :: []).toArray, []⟩ w := by
  have T := T0
  co_apply Exists.intro
  intro Q w0 q bX cap n v0 v6 v7 v8 v9 v10 v11 v12 v13 v14 v15 v16 x4 x5 x20 x21 x22 x23 x24 x25 x26 x27 x28 x29 x30 x31 x32 x33 x34 x35 x36 x37 x38 x39 x40 x41 x42 x43 x44 x45 x46 x47 x48 x49 x50 x51 x52 x53 x54 x55 x56 x57 w hF hnext
  co_apply loopC_round T
  generalize hQ : (fun a' w' => LoopC Tryd.prog main AtRel D0 55 loopSt 0 Q a' w') = Nx
  simp only [loopSt, bodySt, Tryd.f55, Option.getD_some]
  co_apply wpC_seq T
  co_reg T
  co_op HB.rel hF (co_quiet T)
  co_apply opsC_nil T
  co_then
  co_apply wpC_seq T (n₂ := 0)
  co_apply wpC_cond T (t := false)
  focus (exact rfl)
  simp only [Bool.false_eq_true, if_false]
  co_apply wpC_exit T
  co_then
  exact hnext _ _ _ _ _ _ _ _ _ _ _ _ _ _ _ _ _ _ _ _ _ _ _ _ _ _ _ _ _ _ _ _ _ _ _ _ _ _ _ _ _ hF
end
end Go.Proofs.YtmmjlngbiilagaaDoor

/-
  (Stream).Check AT THE EXAMPLE's STREAMS.
-/
namespace Go.Proofs.YtmmjlngbiilagaaDoor
open Go Go.Conc Go.RowKit Go.Lib

theorem HB.trans {w0 w w' : World} {g : Nat} {cells : Array Value} {t : TypeId} (h : HB w0 g cells t w) (r : Grew w w') : HB w0 g cells t w' := h.grew r
theorem fiveB : Five { data := #[66, 65, 78, 75, 66] } := by
  have key : ∀ j, j < 5 → ∃ b : UInt8, ({ data := #[66, 65, 78, 75, 66] } : ByteArray)[j]? = some b ∧ 65 ≤ b.toNat ∧ b.toNat ≤ 90 := by
    intro j hj
    obtain rfl | rfl | rfl | rfl | rfl : j = 0 ∨ j = 1 ∨ j = 2 ∨ j = 3 ∨ j = 4 := by omega
    · exact ⟨66, by kernel_rfl, by decide, by decide⟩
    · exact ⟨65, by kernel_rfl, by decide, by decide⟩
    · exact ⟨78, by kernel_rfl, by decide, by decide⟩
    · exact ⟨75, by kernel_rfl, by decide, by decide⟩
    · exact ⟨66, by kernel_rfl, by decide, by decide⟩
  refine ⟨rfl, fun j b h => ?_⟩
  have hj : j < 5 := by
    refine Nat.lt_of_not_le fun hn => ?_
    rw [getElem?_neg _ _ (by show ¬ j < 5; omega)] at h
    cases h
  obtain ⟨b', h1, h2⟩ := key j hj
  rw [h] at h1
  cases h1
  exact h2
theorem fiveA : Five { data := #[66, 65, 78, 75, 65] } := by
  have key : ∀ j, j < 5 → ∃ b : UInt8, ({ data := #[66, 65, 78, 75, 65] } : ByteArray)[j]? = some b ∧ 65 ≤ b.toNat ∧ b.toNat ≤ 90 := by
    intro j hj
    obtain rfl | rfl | rfl | rfl | rfl : j = 0 ∨ j = 1 ∨ j = 2 ∨ j = 3 ∨ j = 4 := by omega
    · exact ⟨66, by kernel_rfl, by decide, by decide⟩
    · exact ⟨65, by kernel_rfl, by decide, by decide⟩
    · exact ⟨78, by kernel_rfl, by decide, by decide⟩
    · exact ⟨75, by kernel_rfl, by decide, by decide⟩
    · exact ⟨65, by kernel_rfl, by decide, by decide⟩
  refine ⟨rfl, fun j b h => ?_⟩
  have hj : j < 5 := by
    refine Nat.lt_of_not_le fun hn => ?_
    rw [getElem?_neg _ _ (by show ¬ j < 5; omega)] at h
    cases h
  obtain ⟨b', h1, h2⟩ := key j hj
  rw [h] at h1
  cases h1
  exact h2

section
variable {main : Bool}
set_option maxRecDepth 100000 in
set_option maxHeartbeats 16000000 in
theorem strB_c : ∃ n, ∀ (sb so kc bX cap : Nat) (w : World), KindsAt sb so kc w → w.rangeAt bX 0 mB1.cells → w.rangeAt bX 4 mB2.cells → CallsC Tryd.prog main AtRel D0 55 #[.agg #[.string { data := #[66, 65, 78, 75, 66] }, .slice (some ⟨bX, 0, none⟩) 2 cap]] n w fun v w' => v = .int .i64 0 ∧ Grew w w' := by
  have T := T0
  obtain ⟨nv, hv⟩ := valid_c (main := main)
  obtain ⟨K0, h0⟩ := st_B1 (main := main)
  obtain ⟨K1, h1⟩ := st_B2 (main := main)
  obtain ⟨K2, h2⟩ := st_exB (main := main)
  co_apply Exists.intro
  intro sb so kc bX cap w0 hk hM1 hM2
  co_apply callsC_of_wpC Tryd.func55 (by rfl) rfl
  have hF : Grew w0 w0 := .refl w0
  simp only [Tryd.ntmps55, List.size_toArray, List.length_cons, List.length_nil, Nat.reduceAdd, Nat.reduceSub, Array.replicate_succ, Array.replicate_zero, List.push_toArray, List.append_toArray, List.nil_append, List.cons_append]
  co_apply wpC_seq T
  co_reg T
  co_apply opsC_yld rfl (by rfl)
  intro w₁ hR
  replace hF := Grew.rel hF hR
  clear hR
  refine ⟨_, _, _, yld_box rfl, db_new _, ?_⟩
  replace hF := HB.new (cells := (Value.agg #[.string { data := #[66, 65, 78, 75, 66] }, .slice (some ⟨bX, 0, none⟩) 2 cap]).cells) (t := 61) hF
  walk_nrm
  simp only [Act.eval, Value.cells] at hF ⊢
  generalize hw : w₁.alloc _ = w₂ at hF ⊢
  generalize w₁.heap.size = q at hF ⊢
  clear hw w₁
  co_op HB.rel hF (co_quiet T)
  co_apply opsC_nil T
  co_then
  co_apply wpC_seq T
  co_apply wpC_block T
  co_apply wpC_seq T
  co_reg T
  co_op HB.rel hF (co_quiet T)
  co_apply opsC_yld rfl (by rfl)
  intro w₁ hR
  replace hF := HB.rel hF hR
  clear hR
  refine ⟨_, _, _, yld_load1 (ad := ⟨q, 0, none⟩) (v := .string { data := #[66, 65, 78, 75, 66] }) rfl rfl (by rw [cell_of_row _ _ _ _ _ _ hF.blk]; rfl) (Tryd.isAgg9 _) (evAgg _), db_read (heap_lt hF.blk) (fun _ _ => trivial), ?_⟩
  walk_nrm
  co_apply opsC_call T rfl (by rfl) rfl
  focus (walk_nrm; exact hv sb so kc _ _ fiveB (hk.grew hF.gr))
  rintro v w' ⟨rfl, hs⟩
  replace hF := hF.trans hs
  clear hs
  walk_nrm
  co_op HB.rel hF (co_quiet T)
  co_op HB.rel hF (co_quiet T)
  co_apply opsC_nil T
  co_then
  co_apply wpC_cond T (t := false)
  focus (exact rfl)
  simp only [Bool.false_eq_true, if_false]
  co_apply wpC_seq T
  co_reg T
  co_op HB.rel hF (co_quiet T)
  co_apply opsC_yld rfl (by rfl)
  intro w₁ hR
  replace hF := HB.rel hF hR
  clear hR
  refine ⟨_, _, _, yld_load1 (ad := ⟨q, 1, none⟩) (v := .slice (some ⟨bX, 0, none⟩) 2 cap) rfl rfl (by rw [cell_of_row _ _ _ _ _ _ hF.blk]; rfl) (Tryd.isAgg27 _) (evAgg _), db_read (heap_lt hF.blk) (fun _ _ => trivial), ?_⟩
  walk_nrm
  co_op HB.rel hF (co_quiet T)
  co_op HB.rel hF (co_quiet T)
  co_op HB.rel hF (co_quiet T)
  co_apply opsC_nil T
  co_then
  co_apply wpC_cond T (t := false)
  focus (exact rfl)
  simp only [Bool.false_eq_true, if_false]
  co_apply wpC_skip T
  co_then
  co_apply wpC_seq T
  co_reg T
  co_op HB.rel hF (co_quiet T)
  co_apply opsC_nil T
  co_then
  co_apply wpC_seq T
  co_apply wpC_seq T
  co_reg T
  co_op HB.rel hF (co_quiet T)
  co_apply opsC_yld rfl (by rfl)
  intro w₁ hR
  replace hF := HB.rel hF hR
  clear hR
  refine ⟨_, _, _, yld_load1 (ad := ⟨q, 1, none⟩) (v := .slice (some ⟨bX, 0, none⟩) 2 cap) rfl rfl (by rw [cell_of_row _ _ _ _ _ _ hF.blk]; rfl) (Tryd.isAgg27 _) (evAgg _), db_read (heap_lt hF.blk) (fun _ _ => trivial), ?_⟩
  walk_nrm
  co_op HB.rel hF (co_quiet T)
  co_op HB.rel hF (co_quiet T)
  co_apply opsC_nil T
  co_then
  co_apply wpC_block T
  co_apply wpC_loop_in T
  co_apply h0 hF hM1
  intro _ _ _ _ _ _ _ _ _ _ _ _ _ _ _ _ _ _ _ _ _ _ _ _ _ _ _ _ _ _ _ _ _ _ _ _ _ _ _ _ w0 hF
  co_apply h1 hF hM2
  intro _ _ _ _ _ _ _ _ _ _ _ _ _ _ _ _ _ _ _ _ _ _ _ _ _ _ _ _ _ _ _ _ _ _ _ _ _ _ _ _ w1 hF
  co_apply h2 hF (n := 0)
  intro _ _ _ _ _ _ _ _ _ _ _ _ _ _ _ _ _ _ _ _ _ _ _ _ _ _ _ _ _ _ _ _ _ _ _ _ _ _ _ _ w2 hF
  co_then
  co_apply wpC_seq T
  co_reg T
  co_op HB.rel hF (co_quiet T)
  co_apply opsC_nil T
  co_then
  co_apply wpC_ret T
  exact ⟨rfl, _, resultsC_tmp (by rfl) _, rfl, hF.gr⟩

set_option maxRecDepth 100000 in
set_option maxHeartbeats 16000000 in
theorem strA_c : ∃ n, ∀ (sb so kc bX cap : Nat) (w : World), KindsAt sb so kc w → w.rangeAt bX 0 mA1.cells → CallsC Tryd.prog main AtRel D0 55 #[.agg #[.string { data := #[66, 65, 78, 75, 65] }, .slice (some ⟨bX, 0, none⟩) 1 cap]] n w fun v w' => v = .int .i64 0 ∧ Grew w w' := by
  have T := T0
  obtain ⟨nv, hv⟩ := valid_c (main := main)
  obtain ⟨K0, h0⟩ := st_A1 (main := main)
  obtain ⟨K1, h1⟩ := st_exA (main := main)
  co_apply Exists.intro
  intro sb so kc bX cap w0 hk hM1
  co_apply callsC_of_wpC Tryd.func55 (by rfl) rfl
  have hF : Grew w0 w0 := .refl w0
  simp only [Tryd.ntmps55, List.size_toArray, List.length_cons, List.length_nil, Nat.reduceAdd, Nat.reduceSub, Array.replicate_succ, Array.replicate_zero, List.push_toArray, List.append_toArray, List.nil_append, List.cons_append]
  co_apply wpC_seq T
  co_reg T
  co_apply opsC_yld rfl (by rfl)
  intro w₁ hR
  replace hF := Grew.rel hF hR
  clear hR
  refine ⟨_, _, _, yld_box rfl, db_new _, ?_⟩
  replace hF := HB.new (cells := (Value.agg #[.string { data := #[66, 65, 78, 75, 65] }, .slice (some ⟨bX, 0, none⟩) 1 cap]).cells) (t := 61) hF
  walk_nrm
  simp only [Act.eval, Value.cells] at hF ⊢
  generalize hw : w₁.alloc _ = w₂ at hF ⊢
  generalize w₁.heap.size = q at hF ⊢
  clear hw w₁
  co_op HB.rel hF (co_quiet T)
  co_apply opsC_nil T
  co_then
  co_apply wpC_seq T
  co_apply wpC_block T
  co_apply wpC_seq T
  co_reg T
  co_op HB.rel hF (co_quiet T)
  co_apply opsC_yld rfl (by rfl)
  intro w₁ hR
  replace hF := HB.rel hF hR
  clear hR
  refine ⟨_, _, _, yld_load1 (ad := ⟨q, 0, none⟩) (v := .string { data := #[66, 65, 78, 75, 65] }) rfl rfl (by rw [cell_of_row _ _ _ _ _ _ hF.blk]; rfl) (Tryd.isAgg9 _) (evAgg _), db_read (heap_lt hF.blk) (fun _ _ => trivial), ?_⟩
  walk_nrm
  co_apply opsC_call T rfl (by rfl) rfl
  focus (walk_nrm; exact hv sb so kc _ _ fiveA (hk.grew hF.gr))
  rintro v w' ⟨rfl, hs⟩
  replace hF := hF.trans hs
  clear hs
  walk_nrm
  co_op HB.rel hF (co_quiet T)
  co_op HB.rel hF (co_quiet T)
  co_apply opsC_nil T
  co_then
  co_apply wpC_cond T (t := false)
  focus (exact rfl)
  simp only [Bool.false_eq_true, if_false]
  co_apply wpC_seq T
  co_reg T
  co_op HB.rel hF (co_quiet T)
  co_apply opsC_yld rfl (by rfl)
  intro w₁ hR
  replace hF := HB.rel hF hR
  clear hR
  refine ⟨_, _, _, yld_load1 (ad := ⟨q, 1, none⟩) (v := .slice (some ⟨bX, 0, none⟩) 1 cap) rfl rfl (by rw [cell_of_row _ _ _ _ _ _ hF.blk]; rfl) (Tryd.isAgg27 _) (evAgg _), db_read (heap_lt hF.blk) (fun _ _ => trivial), ?_⟩
  walk_nrm
  co_op HB.rel hF (co_quiet T)
  co_op HB.rel hF (co_quiet T)
  co_op HB.rel hF (co_quiet T)
  co_apply opsC_nil T
  co_then
  co_apply wpC_cond T (t := false)
  focus (exact rfl)
  simp only [Bool.false_eq_true, if_false]
  co_apply wpC_skip T
  co_then
  co_apply wpC_seq T
  co_reg T
  co_op HB.rel hF (co_quiet T)
  co_apply opsC_nil T
  co_then
  co_apply wpC_seq T
  co_apply wpC_seq T
  co_reg T
  co_op HB.rel hF (co_quiet T)
  co_apply opsC_yld rfl (by rfl)
  intro w₁ hR
  replace hF := HB.rel hF hR
  clear hR
  refine ⟨_, _, _, yld_load1 (ad := ⟨q, 1, none⟩) (v := .slice (some ⟨bX, 0, none⟩) 1 cap) rfl rfl (by rw [cell_of_row _ _ _ _ _ _ hF.blk]; rfl) (Tryd.isAgg27 _) (evAgg _), db_read (heap_lt hF.blk) (fun _ _ => trivial), ?_⟩
  walk_nrm
  co_op HB.rel hF (co_quiet T)
  co_op HB.rel hF (co_quiet T)
  co_apply opsC_nil T
  co_then
  co_apply wpC_block T
  co_apply wpC_loop_in T
  co_apply h0 hF hM1
  intro _ _ _ _ _ _ _ _ _ _ _ _ _ _ _ _ _ _ _ _ _ _ _ _ _ _ _ _ _ _ _ _ _ _ _ _ _ _ _ _ w0 hF
  co_apply h1 hF (n := 0)
  intro _ _ _ _ _ _ _ _ _ _ _ _ _ _ _ _ _ _ _ _ _ _ _ _ _ _ _ _ _ _ _ _ _ _ _ _ _ _ _ _ w1 hF
  co_then
  co_apply wpC_seq T
  co_reg T
  co_op HB.rel hF (co_quiet T)
  co_apply opsC_nil T
  co_then
  co_apply wpC_ret T
  exact ⟨rfl, _, resultsC_tmp (by rfl) _, rfl, hF.gr⟩

end
end Go.Proofs.YtmmjlngbiilagaaDoor

/-
  MAPS: operations in company.
-/
namespace Go.Proofs.YtmmjlngbiilagaaDoor
open Go Go.Conc Go.RowKit Go.Lib

/-- What a map's operation lists. -/
def ObE (r : Nat) (e : Event) : Prop := ∃ wr, e = ⟨.obj r, wr, false⟩
section
variable {P : Program} {w : World} {o : Oper} {a : Act} {r c : Nat} {es : Array MapEntry}
theorem run_getObj_map (h : w.heap[r]? = some (.map es c)) : (getObj r).run P w = .ok (.map es c) w := by
  simp [getObj, Sem.run, h]
theorem events_getObj_map (h : w.heap[r]? = some (.map es c)) (ev : Array Event) : (getObj r).events P w ev = ev.push ⟨.obj r, false, false⟩ := by
  simp [getObj, Sem.events, Sem.runT, h, Obj.isChan, -Sem.runT_eq]
theorem run_setObj_map (ob : Obj) (h : w.heap[r]? = some (.map es c)) : (setObj r ob).run P w = .ok () { w with heap := w.heap.setIfInBounds r ob } := by
  simp [setObj, Sem.run, h]
theorem events_setObj_map (es' : Array MapEntry) (c' : Nat) (h : w.heap[r]? = some (.map es c)) (ev : Array Event) : (setObj r (.map es' c')).events P w ev = ev.push ⟨.obj r, true, false⟩ := by
  simp [setObj, Sem.events, Sem.runT, h, Obj.isChan, -Sem.runT_eq]
theorem run_checkKeyS {e : Bool} {s : ByteArray} (hs : P.underlying 9 = some .string) : (Instr.checkKey e 10000 9 (.string s)).run P w = .ok () w := by
  have h : ∀ d : Nat, (Instr.checkKey e (d + 1) 9 (.string s)).run P w = .ok () w := fun d => by
    simp [Instr.checkKey, run_underlying hs]
  exact h 9999
theorem events_checkKeyS {e : Bool} {s : ByteArray} (hs : P.underlying 9 = some .string) (ev : Array Event) : (Instr.checkKey e 10000 9 (.string s)).events P w ev = ev := by
  have h : ∀ d : Nat, (Instr.checkKey e (d + 1) 9 (.string s)).events P w ev = ev := fun d => by
    simp [Instr.checkKey, run_underlying hs, Sem.events_bind]
  exact h 9999
theorem run_findKeyS {s : ByteArray} {l : List MapEntry} (hs : P.underlying 9 = some .string) (hf : Instr.findNow .string (.string s) l 0 = some none) : (Instr.findKey 9 (.string s) l).run P w = .ok none w := by
  simp [Instr.findKey, run_underlying hs, hf]
theorem events_findKeyS {s : ByteArray} {l : List MapEntry} (hs : P.underlying 9 = some .string) (hf : Instr.findNow .string (.string s) l 0 = some none) (ev : Array Event) : (Instr.findKey 9 (.string s) l).events P w ev = ev := by
  simp [Instr.findKey, run_underlying hs, hf, Sem.events_bind]
end
section
variable {w : World} {o : Oper} {a : Act} {r c : Nat} {es : Array MapEntry}
theorem yld_makeMap {t : TypeId} (ho : o.op = .makeMap t none) : Yld Tryd.prog o a w NoE (a.put o.dst (.map (some w.heap.size))) (w.alloc (.map #[] 0)) := by
  have hr : (Instr.makeMap t none).run Tryd.prog w = .ok (.map (some w.heap.size)) (w.alloc (.map #[] 0)) := rfl
  have hv : (Sem.new (Obj.map #[] 0) Sem.pure : Sem Nat).events Tryd.prog w #[] = #[] := rfl
  refine Yld.value ?_ ?_
  · unfold execOp
    simp [ho, hr]
  · intro e he
    unfold execOp at he
    simp [ho, Instr.makeMap, newObj, hv] at he
theorem yld_lookup {x y : Operand} {s : ByteArray} (ho : o.op = .lookup 101 x y false) (hx : a.eval x = .map (some r)) (hy : a.eval y = .string s) (hr : w.heap[r]? = some (.map es c)) (hf : Instr.findNow .string (.string s) es.toList 0 = some none) :
    Yld Tryd.prog o a w (ObE r) (a.put o.dst (.bool false)) w := by
  refine Yld.value ?_ ?_
  · unfold execOp
    simp only [ho, hx, hy]
    simp [Instr.lookup, Tryd.runUnderlying101, Sem.run_bind, run_getObj_map hr, run_checkKeyS Tryd.underlying9, run_findKeyS Tryd.underlying9 hf, Tryd.zeroValue4]
  · intro e he
    unfold execOp at he
    simp only [ho, hx, hy] at he
    simp [Instr.lookup, Tryd.runUnderlying101, Sem.events_bind, Sem.run_bind, run_getObj_map hr, events_getObj_map hr, run_checkKeyS Tryd.underlying9, events_checkKeyS Tryd.underlying9, run_findKeyS Tryd.underlying9 hf, events_findKeyS Tryd.underlying9 hf, Tryd.zeroValue4] at he
    exact ⟨false, he⟩
theorem yld_mapUpdate {x y z : Operand} {s : ByteArray} {v : Value} (ho : o.op = .mapUpdate 101 x y z) (hx : a.eval x = .map (some r)) (hy : a.eval y = .string s) (hz : a.eval z = v) (hr : w.heap[r]? = some (.map es c)) (hf : Instr.findNow .string (.string s) es.toList 0 = some none) :
    Yld Tryd.prog o a w (ObE r) (a.put o.dst undef) { w with heap := w.heap.setIfInBounds r (.map (es.push { key := .string s, val := v, born := c }) (c + 1)) } := by
  have hrun : (Instr.mapUpdate 101 (.map (some r)) (.string s) v).run Tryd.prog w = .ok () { w with heap := w.heap.setIfInBounds r (.map (es.push { key := .string s, val := v, born := c }) (c + 1)) } := by
    simp [Instr.mapUpdate, Tryd.runUnderlying101, Sem.run_bind, run_getObj_map hr, run_checkKeyS Tryd.underlying9, run_findKeyS Tryd.underlying9 hf, run_setObj_map _ hr]
  refine Yld.skip ?_ ?_
  · unfold execOp
    simp [ho, hx, hy, hz, hrun]
  · intro e he
    unfold execOp at he
    simp only [ho, hx, hy, hz] at he
    simp [Instr.mapUpdate, Tryd.runUnderlying101, Sem.events_bind, Sem.run_bind, run_getObj_map hr, events_getObj_map hr, run_checkKeyS Tryd.underlying9, events_checkKeyS Tryd.underlying9, run_findKeyS Tryd.underlying9 hf, events_findKeyS Tryd.underlying9 hf, run_setObj_map _ hr, events_setObj_map _ _ hr] at he
    rcases he with rfl | rfl
    · exact ⟨false, rfl⟩
    · exact ⟨true, rfl⟩
theorem db_obj {F : Event → Prop} {w' : World} (hsz : w.heap.size ≤ w'.heap.size) (hg : r < w.heap.size) (hF : ∀ e, ObE r e → F e) : ∀ ev : Array Event, (∀ e ∈ ev, ObE r e) → DB (fun _ => False) F w w' ev := fun ev h =>
  ⟨hsz, fun e he => by
    have h1 := h e he
    refine ⟨?_, hF e h1⟩
    obtain ⟨wr, rfl⟩ := h1
    exact evL_none (by simp) (by simp) (by simp only [MemAct.ofEvent, MemAct.low, Loc.low]; exact Nat.lt_of_lt_of_le hg hsz)⟩
end
end Go.Proofs.YtmmjlngbiilagaaDoor
