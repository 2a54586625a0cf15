/-
  GOROUTINE 0's WALK: errors.As, whatever errors.as answers.
-/
import Derived.Test.YtmmjlngbiilagaaGreatDoorT21

namespace Go.Proofs.YtmmjlngbiilagaaGreatDoor
open Go Go.Conc Go.Shelf Go.RowKit Go.Lib

theorem exec_load {a : Act} {o : Oper} {t : TypeId} {x : Operand} {pv : Value} (hop : o.op = .load t x) (hx : a.eval x = pv) : execOp a.eval o = (Instr.loadAt t pv).bind fun z => .pure (.value z) := by
  subst hx
  unfold execOp
  simp only [hop]
  rfl
theorem ld71 {w : World} {y : Value} (h : w.cell? ⟨0, 0, none⟩ = some y) : ((Instr.loadAt 71 (.pointer (some ⟨0, 0, none⟩))).bind fun z => .pure (.value z) : Sem Next).runT Tryz.prog w #[] = (.ok (.value y) w, #[lev ⟨0, 0, none⟩]) := by
  have e : (Instr.loadAt 71 (.pointer (some ⟨0, 0, none⟩))).runT Tryz.prog w #[] = (Sem.load .plain ⟨0, 0, none⟩ Sem.pure).runT Tryz.prog w #[] := by kernel_rfl
  exact (runT_bd (e.trans (runT_ld h))).trans rfl
theorem gd_rva {Gd : GB} {t : Nat} {a : Addr} {fl : Nat} (h : PFg Gd (rva t a fl)) : Gd a.block := by
  rcases h with h | h
  · exact h.elim
  · cases h with
    | agg h =>
      have h1 := h (.pointer (some a)) (by simp)
      cases h1 with
      | ptr h2 => exact h2
set_option maxRecDepth 100000 in
set_option maxHeartbeats 8000000 in
theorem as_genII {Gd : GB} {F : Nat → Prop} {v : World} (hgl : ∀ g, glH g = true → Gd g) (h6 : Gd 6) (e t : Addr) (he : Gd e.block) (htg : Gd t.block) (hE : ErrT v) (b : Bool) (RR : World → World → Prop)
    (hin : ∀ (v2 : World) (a : Addr), Bl v.heap.size v v2 → v2.cell? a = some (.pointer (some t)) → Gd a.block → CallsV Vh Tryz.prog Gd 21 #[.iface 35 (.pointer (some e)), .iface 39 (.pointer (some t)), rva 39 a 150, rty 35] F v2 fun F' z v' => F' = F ∧ z = .bool b ∧ RR v2 v') :
    CallsV Vh Tryz.prog Gd 9 #[.iface 35 (.pointer (some e)), .iface 39 (.pointer (some t))] F v fun F' z v' => F' = F ∧ z = .bool b ∧ ∃ v2, Bl v.heap.size v v2 ∧ RR v2 v' := by
  refine callsV_body Tryz.func9 (by rfl) (by kernel_rfl) ?_
  simp only [Tryz.ntmps9]
  (simp only [List.size_toArray, List.length_cons, List.length_nil, Nat.reduceAdd, Nat.reduceSub, Array.replicate_succ, Array.replicate_zero, List.push_toArray, List.append_toArray, List.nil_append, List.cons_append])
  obtain ⟨u, hu⟩ : ∃ u, u = (v.alloc (.cells #[.pointer (some t)] 39)).alloc (.cells #[hdl 39, .pointer (some ⟨v.heap.size, 0, none⟩), .int .u64 150] 68) := ⟨_, rfl⟩
  have hb1 : u.heap[v.heap.size + 1]? = some (.cells #[hdl 39, .pointer (some ⟨v.heap.size, 0, none⟩), .int .u64 150] 68) := by
    rw [hu]; exact newBlk _ _ _ (by simp)
  have hb0 : u.heap[v.heap.size]? = some (.cells #[.pointer (some t)] 39) := by
    rw [hu]; exact (Below.heap_alloc _ _ _ (by simp)).trans (heap_alloc_new v _)
  have c0 := cell_of_row u (v.heap.size + 1) 0 _ _ _ hb1
  have c1 := cell_of_row u (v.heap.size + 1) 1 _ _ _ hb1
  have c2 := cell_of_row u (v.heap.size + 1) 2 _ _ _ hb1
  have ca := cell_of_row u v.heap.size 0 _ _ _ hb0
  simp only [List.getElem?_toArray, List.getElem?_cons_zero, List.getElem?_cons_succ] at c0 c1 c2 ca
  have hbl : Bl v.heap.size v u := by rw [hu]; exact ((Bl.refl _ _).alloc (Nat.le_refl _) _).alloc (by simp) _
  have cg : u.cell? ⟨0, 0, none⟩ = some (rty 32) := (hbl.cell (p := ⟨0, 0, none⟩) (World.block_lt_of_cell? v _ hE)).trans hE
  have HU := Lib.hid hu
  have CA := Lib.hid ca
  have CG := Lib.hid cg
  have HBL := Lib.hid hbl
  clear hu hb1 hb0 ca cg hbl hE
  have tpc := tpC
  have tpf := tpF
  have tpa := tpA
  have tps := tpS
  have tph := tpH
  (refine wpV_seq ?_)
  (refine wpV_region ?_; simp only [List.size_toArray, List.length_cons, List.length_nil, Nat.reduceAdd, Nat.zero_add, List.range, List.range.loop])
  (refine opsV_op_k rfl (by rfl) (fun B hn => opsH hn hgl (by first | rfl | kernel_rfl)) ?_; intro τ p K hK; go_simp; refine hK _ _ ?_; clear hK K p τ; (try walk_nrm))
  (refine opsV_nil ?_; (try dsimp only [thenV_normal, inBV_normal]))
  (refine wpV_seq ?_)
  (refine wpV_seq ?_)
  (refine wpV_region ?_; simp only [List.size_toArray, List.length_cons, List.length_nil, Nat.reduceAdd, Nat.zero_add, List.range, List.range.loop])
  (refine opsV_op_k rfl (by rfl) (fun B hn => opsH hn hgl (by first | rfl | kernel_rfl)) ?_; intro τ p K hK; go_simp; refine hK _ _ ?_; clear hK K p τ; (try walk_nrm))
  (refine opsV_pureS (x := .bool false) (es := #[]) rfl (by rfl) (exec_bin rfl (by rfl) (by rfl)) (fun w => by kernel_rfl) (by rfl) (.inr (.bool _)) ?_; (try walk_nrm))
  (refine opsV_nil ?_; (try dsimp only [thenV_normal, inBV_normal]))
  (refine wpV_cond_f rfl ?_)
  (refine wpV_skip ?_; (try dsimp only [thenV_normal, inBV_normal]))
  (refine wpV_seq ?_)
  (refine wpV_seq ?_)
  (refine wpV_region ?_; simp only [List.size_toArray, List.length_cons, List.length_nil, Nat.reduceAdd, Nat.zero_add, List.range, List.range.loop])
  (refine opsV_op_k rfl (by rfl) (fun B hn => opsH hn hgl (by first | rfl | kernel_rfl)) ?_; intro τ p K hK; go_simp; refine hK _ _ ?_; clear hK K p τ; (try walk_nrm))
  (refine opsV_pureS (x := .bool false) (es := #[]) rfl (by rfl) (exec_bin rfl (by rfl) (by rfl)) (fun w => by kernel_rfl) (by rfl) (.inr (.bool _)) ?_; (try walk_nrm))
  (refine opsV_nil ?_; (try dsimp only [thenV_normal, inBV_normal]))
  (refine wpV_cond_f rfl ?_)
  (refine wpV_skip ?_; (try dsimp only [thenV_normal, inBV_normal]))
  (refine wpV_seq ?_)
  (refine wpV_region ?_; simp only [List.size_toArray, List.length_cons, List.length_nil, Nat.reduceAdd, Nat.zero_add, List.range, List.range.loop])
  (refine opsV_op_k rfl (by rfl) (fun B hn => opsH hn hgl (by first | rfl | kernel_rfl)) ?_; intro τ p K hK; go_simp; refine hK _ _ ?_; clear hK K p τ; (try walk_nrm))
  (refine opsV_newS (x := rva 39 ⟨v.heap.size, 0, none⟩ 150) (ob := .cells #[.pointer (some t)] 39) (es := #[xev 18]) rfl (by rfl) (exec_call rfl (by walk_nrm <;> rfl)) (fun w hw => (voN39 t w hw)) (by rfl) (fun B hn x hx => by (simp only [List.mem_toArray, List.mem_singleton] at hx; subst hx; exact .inr (.ptr htg))) (fun B hn hs => pf_rva h6 _ (hn _ hs) _) ?_; (try walk_nrm))
  (refine opsV_op_k rfl (by rfl) (fun B hn => opsH hn hgl (by first | rfl | kernel_rfl)) ?_; intro τ p K hK; go_simp; refine hK _ _ ?_; clear hK K p τ; (try walk_nrm))
  (refine opsV_op_k rfl (by rfl) (fun B hn => opsH hn hgl (by first | rfl | kernel_rfl)) ?_; intro τ p K hK; go_simp; refine hK _ _ ?_; clear hK K p τ; (try walk_nrm))
  (refine opsV_nil ?_; (try dsimp only [thenV_normal, inBV_normal]))
  have hcall : CallsV Vh Tryz.prog Gd 21 #[.iface 35 (.pointer (some e)), .iface 39 (.pointer (some t)), rva 39 ⟨v.heap.size, 0, none⟩ 150, rty 35] F u fun F' z v' => F' = F ∧ z = .bool b ∧ RR u v' := fun Post c cs ha hK => hin u ⟨v.heap.size, 0, none⟩ HBL.out CA.out (gd_rva (ha (rva 39 ⟨v.heap.size, 0, none⟩ 150) (by simp))) Post c cs ha hK
  clear hin
  rw [show (v.alloc (.cells #[.pointer (some t)] 39)).alloc (.cells #[.pointer (some ⟨6, 39, none⟩), .pointer (some ⟨v.heap.size, 0, none⟩), .int .u64 150] 68) = u from HU.out.symm]
  (refine wpV_seq ?_)
  (refine wpV_region ?_; simp only [List.size_toArray, List.length_cons, List.length_nil, Nat.reduceAdd, Nat.zero_add, List.range, List.range.loop])
  (refine opsV_op_k rfl (by rfl) (fun B hn => opsH hn hgl (by first | rfl | kernel_rfl)) ?_; intro τ p K hK; go_simp; refine hK _ _ ?_; clear hK K p τ; (try walk_nrm))
  (refine opsV_pureS rfl (by rfl) (exec_call rfl (by walk_nrm <;> rfl)) (fun w => (ty39 ⟨v.heap.size, 0, none⟩ w)) (by rfl) (pf_rty h6 _) ?_; (try walk_nrm))
  (refine opsV_op_k rfl (by rfl) (fun B hn => opsH hn hgl (by first | rfl | kernel_rfl)) ?_; intro τ p K hK; go_simp; refine hK _ _ ?_; clear hK K p τ; (try walk_nrm))
  (refine opsV_nil ?_; (try dsimp only [thenV_normal, inBV_normal]))
  (refine wpV_seq ?_)
  (refine wpV_seq ?_)
  (refine wpV_region ?_; simp only [List.size_toArray, List.length_cons, List.length_nil, Nat.reduceAdd, Nat.zero_add, List.range, List.range.loop])
  (refine opsV_op_k rfl (by rfl) (fun B hn => opsH hn hgl (by first | rfl | kernel_rfl)) ?_; intro τ p K hK; go_simp; refine hK _ _ ?_; clear hK K p τ; (try walk_nrm))
  (refine opsV_pureS rfl (by rfl) (exec_inv rfl (by rfl) (by walk_nrm <;> rfl)) (fun w => (kd39 w)) (by rfl) (.inr (.int _ _)) ?_; (try walk_nrm))
  (refine opsV_pureS (x := .bool false) (es := #[]) rfl (by rfl) (exec_bin rfl (by rfl) (by rfl)) (fun w => by kernel_rfl) (by rfl) (.inr (.bool _)) ?_; (try walk_nrm))
  (refine opsV_op_k rfl (by rfl) (fun B hn => opsH hn hgl (by first | rfl | kernel_rfl)) ?_; intro τ p K hK; go_simp; refine hK _ _ ?_; clear hK K p τ; (try walk_nrm))
  (refine opsV_op_k rfl (by rfl) (fun B hn => opsH hn hgl (by first | rfl | kernel_rfl)) ?_; intro τ p K hK; go_simp; refine hK _ _ ?_; clear hK K p τ; (try walk_nrm))
  (refine opsV_readS (es := #[xev 20]) rfl (by rfl) (exec_call rfl (by walk_nrm <;> rfl)) (CA.out) (fun w hw => (nl39 hw)) (by rfl) (.inr (.bool _)) ?_; (try walk_nrm))
  (refine opsV_op_k rfl (by rfl) (fun B hn => opsH hn hgl (by first | rfl | kernel_rfl)) ?_; intro τ p K hK; go_simp; refine hK _ _ ?_; clear hK K p τ; (try walk_nrm))
  (refine opsV_nil ?_; (try dsimp only [thenV_normal, inBV_normal]))
  (refine wpV_cond_f rfl ?_)
  (refine wpV_skip ?_; (try dsimp only [thenV_normal, inBV_normal]))
  (refine wpV_seq ?_)
  (refine wpV_region ?_; simp only [List.size_toArray, List.length_cons, List.length_nil, Nat.reduceAdd, Nat.zero_add, List.range, List.range.loop])
  (refine opsV_op_k rfl (by rfl) (fun B hn => opsH hn hgl (by first | rfl | kernel_rfl)) ?_; intro τ p K hK; go_simp; refine hK _ _ ?_; clear hK K p τ; (try walk_nrm))
  (refine opsV_pureS rfl (by rfl) (exec_inv rfl (by rfl) (by walk_nrm <;> rfl)) (fun w => (el39 w)) (by rfl) (pf_rty h6 _) ?_; (try walk_nrm))
  (refine opsV_op_k rfl (by rfl) (fun B hn => opsH hn hgl (by first | rfl | kernel_rfl)) ?_; intro τ p K hK; go_simp; refine hK _ _ ?_; clear hK K p τ; (try walk_nrm))
  (refine opsV_nil ?_; (try dsimp only [thenV_normal, inBV_normal]))
  (refine wpV_seq ?_)
  (refine wpV_seq ?_)
  (refine wpV_region ?_; simp only [List.size_toArray, List.length_cons, List.length_nil, Nat.reduceAdd, Nat.zero_add, List.range, List.range.loop])
  (refine opsV_op_k rfl (by rfl) (fun B hn => opsH hn hgl (by first | rfl | kernel_rfl)) ?_; intro τ p K hK; go_simp; refine hK _ _ ?_; clear hK K p τ; (try walk_nrm))
  (refine opsV_pureS rfl (by rfl) (exec_inv rfl (by rfl) (by walk_nrm <;> rfl)) (fun w => (kd35 w)) (by rfl) (.inr (.int _ _)) ?_; (try walk_nrm))
  (refine opsV_pureS (x := .bool true) (es := #[]) rfl (by rfl) (exec_bin rfl (by rfl) (by rfl)) (fun w => by kernel_rfl) (by rfl) (.inr (.bool _)) ?_; (try walk_nrm))
  (refine opsV_op_k rfl (by rfl) (fun B hn => opsH hn hgl (by first | rfl | kernel_rfl)) ?_; intro τ p K hK; go_simp; refine hK _ _ ?_; clear hK K p τ; (try walk_nrm))
  (refine opsV_op_k rfl (by rfl) (fun B hn => opsH hn hgl (by first | rfl | kernel_rfl)) ?_; intro τ p K hK; go_simp; refine hK _ _ ?_; clear hK K p τ; (try walk_nrm))
  refine opsV_readS (es := #[]) rfl (by rfl) (exec_load rfl (by rfl)) CG.out (fun w hw => ld71 hw) (by rfl) (pf_rty h6 _) ?_
  walk_nrm
  (refine opsV_pureS rfl (by rfl) (exec_inv rfl (by rfl) (by walk_nrm <;> rfl)) (fun w => (im35 w)) (by rfl) (.inr (.bool _)) ?_; (try walk_nrm))
  (refine opsV_op_k rfl (by rfl) (fun B hn => opsH hn hgl (by first | rfl | kernel_rfl)) ?_; intro τ p K hK; go_simp; refine hK _ _ ?_; clear hK K p τ; (try walk_nrm))
  (refine opsV_op_k rfl (by rfl) (fun B hn => opsH hn hgl (by first | rfl | kernel_rfl)) ?_; intro τ p K hK; go_simp; refine hK _ _ ?_; clear hK K p τ; (try walk_nrm))
  (refine opsV_nil ?_; (try dsimp only [thenV_normal, inBV_normal]))
  (refine wpV_cond_f rfl ?_)
  (refine wpV_skip ?_; (try dsimp only [thenV_normal, inBV_normal]))
  (refine wpV_seq ?_)
  (refine wpV_region ?_; simp only [List.size_toArray, List.length_cons, List.length_nil, Nat.reduceAdd, Nat.zero_add, List.range, List.range.loop])
  (refine opsV_op_k rfl (by rfl) (fun B hn => opsH hn hgl (by first | rfl | kernel_rfl)) ?_; intro τ p K hK; go_simp; refine hK _ _ ?_; clear hK K p τ; (try walk_nrm))
  (refine opsV_op_k rfl (by rfl) (fun B hn => opsH hn hgl (by first | rfl | kernel_rfl)) ?_; intro τ p K hK; go_simp; refine hK _ _ ?_; clear hK K p τ; (try walk_nrm))
  (refine opsV_op_k rfl (by rfl) (fun B hn => opsH hn hgl (by first | rfl | kernel_rfl)) ?_; intro τ p K hK; go_simp; refine hK _ _ ?_; clear hK K p τ; (try walk_nrm))
  (refine opsV_op_k rfl (by rfl) (fun B hn => opsH hn hgl (by first | rfl | kernel_rfl)) ?_; intro τ p K hK; go_simp; refine hK _ _ ?_; clear hK K p τ; (try walk_nrm))
  (refine opsV_enter (R := ?R77) rfl (by rfl) (run_callV rfl rfl Tryz.func21 (by kernel_rfl) rfl) (pf_call hgl (by rfl)) ?hc77 ?hn77; case hc77 => (walk_nrm; exact hcall))
  rintro F2 z v2 ⟨rfl, rfl, hR⟩
  walk_nrm
  (refine opsV_op_k rfl (by rfl) (fun B hn => opsH hn hgl (by first | rfl | kernel_rfl)) ?_; intro τ p K hK; go_simp; refine hK _ _ ?_; clear hK K p τ; (try walk_nrm))
  (refine opsV_nil ?_; (try dsimp only [thenV_normal, inBV_normal]))
  (refine wpV_ret ?_; (try dsimp only [thenV_ret, inBV_ret]))
  exact ⟨.inr rfl, rfl, _, resultsC_tmp (by rfl) _, rfl, rfl, u, HBL.out, hR⟩
set_option maxRecDepth 100000 in
set_option maxHeartbeats 8000000 in
theorem as_genRR {Gd : GB} {F : Nat → Prop} {v : World} (hgl : ∀ g, glH g = true → Gd g) (h6 : Gd 6) (e t : Addr) (he : Gd e.block) (htg : Gd t.block) (hE : ErrT v) (b : Bool) (RR : World → World → Prop)
    (hin : ∀ (v2 : World) (a : Addr), Bl v.heap.size v v2 → v2.cell? a = some (.pointer (some t)) → Gd a.block → CallsV Vh Tryz.prog Gd 21 #[.iface 36 (.pointer (some e)), .iface 47 (.pointer (some t)), rva 47 a 150, rty 36] F v2 fun F' z v' => F' = F ∧ z = .bool b ∧ RR v2 v') :
    CallsV Vh Tryz.prog Gd 9 #[.iface 36 (.pointer (some e)), .iface 47 (.pointer (some t))] F v fun F' z v' => F' = F ∧ z = .bool b ∧ ∃ v2, Bl v.heap.size v v2 ∧ RR v2 v' := by
  refine callsV_body Tryz.func9 (by rfl) (by kernel_rfl) ?_
  simp only [Tryz.ntmps9]
  (simp only [List.size_toArray, List.length_cons, List.length_nil, Nat.reduceAdd, Nat.reduceSub, Array.replicate_succ, Array.replicate_zero, List.push_toArray, List.append_toArray, List.nil_append, List.cons_append])
  obtain ⟨u, hu⟩ : ∃ u, u = (v.alloc (.cells #[.pointer (some t)] 47)).alloc (.cells #[hdl 47, .pointer (some ⟨v.heap.size, 0, none⟩), .int .u64 150] 68) := ⟨_, rfl⟩
  have hb1 : u.heap[v.heap.size + 1]? = some (.cells #[hdl 47, .pointer (some ⟨v.heap.size, 0, none⟩), .int .u64 150] 68) := by
    rw [hu]; exact newBlk _ _ _ (by simp)
  have hb0 : u.heap[v.heap.size]? = some (.cells #[.pointer (some t)] 47) := by
    rw [hu]; exact (Below.heap_alloc _ _ _ (by simp)).trans (heap_alloc_new v _)
  have c0 := cell_of_row u (v.heap.size + 1) 0 _ _ _ hb1
  have c1 := cell_of_row u (v.heap.size + 1) 1 _ _ _ hb1
  have c2 := cell_of_row u (v.heap.size + 1) 2 _ _ _ hb1
  have ca := cell_of_row u v.heap.size 0 _ _ _ hb0
  simp only [List.getElem?_toArray, List.getElem?_cons_zero, List.getElem?_cons_succ] at c0 c1 c2 ca
  have hbl : Bl v.heap.size v u := by rw [hu]; exact ((Bl.refl _ _).alloc (Nat.le_refl _) _).alloc (by simp) _
  have cg : u.cell? ⟨0, 0, none⟩ = some (rty 32) := (hbl.cell (p := ⟨0, 0, none⟩) (World.block_lt_of_cell? v _ hE)).trans hE
  have HU := Lib.hid hu
  have CA := Lib.hid ca
  have CG := Lib.hid cg
  have HBL := Lib.hid hbl
  clear hu hb1 hb0 ca cg hbl hE
  have tpc := tpC
  have tpf := tpF
  have tpa := tpA
  have tps := tpS
  have tph := tpH
  (refine wpV_seq ?_)
  (refine wpV_region ?_; simp only [List.size_toArray, List.length_cons, List.length_nil, Nat.reduceAdd, Nat.zero_add, List.range, List.range.loop])
  (refine opsV_op_k rfl (by rfl) (fun B hn => opsH hn hgl (by first | rfl | kernel_rfl)) ?_; intro τ p K hK; go_simp; refine hK _ _ ?_; clear hK K p τ; (try walk_nrm))
  (refine opsV_nil ?_; (try dsimp only [thenV_normal, inBV_normal]))
  (refine wpV_seq ?_)
  (refine wpV_seq ?_)
  (refine wpV_region ?_; simp only [List.size_toArray, List.length_cons, List.length_nil, Nat.reduceAdd, Nat.zero_add, List.range, List.range.loop])
  (refine opsV_op_k rfl (by rfl) (fun B hn => opsH hn hgl (by first | rfl | kernel_rfl)) ?_; intro τ p K hK; go_simp; refine hK _ _ ?_; clear hK K p τ; (try walk_nrm))
  (refine opsV_pureS (x := .bool false) (es := #[]) rfl (by rfl) (exec_bin rfl (by rfl) (by rfl)) (fun w => by kernel_rfl) (by rfl) (.inr (.bool _)) ?_; (try walk_nrm))
  (refine opsV_nil ?_; (try dsimp only [thenV_normal, inBV_normal]))
  (refine wpV_cond_f rfl ?_)
  (refine wpV_skip ?_; (try dsimp only [thenV_normal, inBV_normal]))
  (refine wpV_seq ?_)
  (refine wpV_seq ?_)
  (refine wpV_region ?_; simp only [List.size_toArray, List.length_cons, List.length_nil, Nat.reduceAdd, Nat.zero_add, List.range, List.range.loop])
  (refine opsV_op_k rfl (by rfl) (fun B hn => opsH hn hgl (by first | rfl | kernel_rfl)) ?_; intro τ p K hK; go_simp; refine hK _ _ ?_; clear hK K p τ; (try walk_nrm))
  (refine opsV_pureS (x := .bool false) (es := #[]) rfl (by rfl) (exec_bin rfl (by rfl) (by rfl)) (fun w => by kernel_rfl) (by rfl) (.inr (.bool _)) ?_; (try walk_nrm))
  (refine opsV_nil ?_; (try dsimp only [thenV_normal, inBV_normal]))
  (refine wpV_cond_f rfl ?_)
  (refine wpV_skip ?_; (try dsimp only [thenV_normal, inBV_normal]))
  (refine wpV_seq ?_)
  (refine wpV_region ?_; simp only [List.size_toArray, List.length_cons, List.length_nil, Nat.reduceAdd, Nat.zero_add, List.range, List.range.loop])
  (refine opsV_op_k rfl (by rfl) (fun B hn => opsH hn hgl (by first | rfl | kernel_rfl)) ?_; intro τ p K hK; go_simp; refine hK _ _ ?_; clear hK K p τ; (try walk_nrm))
  (refine opsV_newS (x := rva 47 ⟨v.heap.size, 0, none⟩ 150) (ob := .cells #[.pointer (some t)] 47) (es := #[xev 18]) rfl (by rfl) (exec_call rfl (by walk_nrm <;> rfl)) (fun w hw => (voN47 t w hw)) (by rfl) (fun B hn x hx => by (simp only [List.mem_toArray, List.mem_singleton] at hx; subst hx; exact .inr (.ptr htg))) (fun B hn hs => pf_rva h6 _ (hn _ hs) _) ?_; (try walk_nrm))
  (refine opsV_op_k rfl (by rfl) (fun B hn => opsH hn hgl (by first | rfl | kernel_rfl)) ?_; intro τ p K hK; go_simp; refine hK _ _ ?_; clear hK K p τ; (try walk_nrm))
  (refine opsV_op_k rfl (by rfl) (fun B hn => opsH hn hgl (by first | rfl | kernel_rfl)) ?_; intro τ p K hK; go_simp; refine hK _ _ ?_; clear hK K p τ; (try walk_nrm))
  (refine opsV_nil ?_; (try dsimp only [thenV_normal, inBV_normal]))
  have hcall : CallsV Vh Tryz.prog Gd 21 #[.iface 36 (.pointer (some e)), .iface 47 (.pointer (some t)), rva 47 ⟨v.heap.size, 0, none⟩ 150, rty 36] F u fun F' z v' => F' = F ∧ z = .bool b ∧ RR u v' := fun Post c cs ha hK => hin u ⟨v.heap.size, 0, none⟩ HBL.out CA.out (gd_rva (ha (rva 47 ⟨v.heap.size, 0, none⟩ 150) (by simp))) Post c cs ha hK
  clear hin
  rw [show (v.alloc (.cells #[.pointer (some t)] 47)).alloc (.cells #[.pointer (some ⟨6, 47, none⟩), .pointer (some ⟨v.heap.size, 0, none⟩), .int .u64 150] 68) = u from HU.out.symm]
  (refine wpV_seq ?_)
  (refine wpV_region ?_; simp only [List.size_toArray, List.length_cons, List.length_nil, Nat.reduceAdd, Nat.zero_add, List.range, List.range.loop])
  (refine opsV_op_k rfl (by rfl) (fun B hn => opsH hn hgl (by first | rfl | kernel_rfl)) ?_; intro τ p K hK; go_simp; refine hK _ _ ?_; clear hK K p τ; (try walk_nrm))
  (refine opsV_pureS rfl (by rfl) (exec_call rfl (by walk_nrm <;> rfl)) (fun w => (ty47 ⟨v.heap.size, 0, none⟩ w)) (by rfl) (pf_rty h6 _) ?_; (try walk_nrm))
  (refine opsV_op_k rfl (by rfl) (fun B hn => opsH hn hgl (by first | rfl | kernel_rfl)) ?_; intro τ p K hK; go_simp; refine hK _ _ ?_; clear hK K p τ; (try walk_nrm))
  (refine opsV_nil ?_; (try dsimp only [thenV_normal, inBV_normal]))
  (refine wpV_seq ?_)
  (refine wpV_seq ?_)
  (refine wpV_region ?_; simp only [List.size_toArray, List.length_cons, List.length_nil, Nat.reduceAdd, Nat.zero_add, List.range, List.range.loop])
  (refine opsV_op_k rfl (by rfl) (fun B hn => opsH hn hgl (by first | rfl | kernel_rfl)) ?_; intro τ p K hK; go_simp; refine hK _ _ ?_; clear hK K p τ; (try walk_nrm))
  (refine opsV_pureS rfl (by rfl) (exec_inv rfl (by rfl) (by walk_nrm <;> rfl)) (fun w => (kd47 w)) (by rfl) (.inr (.int _ _)) ?_; (try walk_nrm))
  (refine opsV_pureS (x := .bool false) (es := #[]) rfl (by rfl) (exec_bin rfl (by rfl) (by rfl)) (fun w => by kernel_rfl) (by rfl) (.inr (.bool _)) ?_; (try walk_nrm))
  (refine opsV_op_k rfl (by rfl) (fun B hn => opsH hn hgl (by first | rfl | kernel_rfl)) ?_; intro τ p K hK; go_simp; refine hK _ _ ?_; clear hK K p τ; (try walk_nrm))
  (refine opsV_op_k rfl (by rfl) (fun B hn => opsH hn hgl (by first | rfl | kernel_rfl)) ?_; intro τ p K hK; go_simp; refine hK _ _ ?_; clear hK K p τ; (try walk_nrm))
  (refine opsV_readS (es := #[xev 20]) rfl (by rfl) (exec_call rfl (by walk_nrm <;> rfl)) (CA.out) (fun w hw => (nl47 hw)) (by rfl) (.inr (.bool _)) ?_; (try walk_nrm))
  (refine opsV_op_k rfl (by rfl) (fun B hn => opsH hn hgl (by first | rfl | kernel_rfl)) ?_; intro τ p K hK; go_simp; refine hK _ _ ?_; clear hK K p τ; (try walk_nrm))
  (refine opsV_nil ?_; (try dsimp only [thenV_normal, inBV_normal]))
  (refine wpV_cond_f rfl ?_)
  (refine wpV_skip ?_; (try dsimp only [thenV_normal, inBV_normal]))
  (refine wpV_seq ?_)
  (refine wpV_region ?_; simp only [List.size_toArray, List.length_cons, List.length_nil, Nat.reduceAdd, Nat.zero_add, List.range, List.range.loop])
  (refine opsV_op_k rfl (by rfl) (fun B hn => opsH hn hgl (by first | rfl | kernel_rfl)) ?_; intro τ p K hK; go_simp; refine hK _ _ ?_; clear hK K p τ; (try walk_nrm))
  (refine opsV_pureS rfl (by rfl) (exec_inv rfl (by rfl) (by walk_nrm <;> rfl)) (fun w => (el47 w)) (by rfl) (pf_rty h6 _) ?_; (try walk_nrm))
  (refine opsV_op_k rfl (by rfl) (fun B hn => opsH hn hgl (by first | rfl | kernel_rfl)) ?_; intro τ p K hK; go_simp; refine hK _ _ ?_; clear hK K p τ; (try walk_nrm))
  (refine opsV_nil ?_; (try dsimp only [thenV_normal, inBV_normal]))
  (refine wpV_seq ?_)
  (refine wpV_seq ?_)
  (refine wpV_region ?_; simp only [List.size_toArray, List.length_cons, List.length_nil, Nat.reduceAdd, Nat.zero_add, List.range, List.range.loop])
  (refine opsV_op_k rfl (by rfl) (fun B hn => opsH hn hgl (by first | rfl | kernel_rfl)) ?_; intro τ p K hK; go_simp; refine hK _ _ ?_; clear hK K p τ; (try walk_nrm))
  (refine opsV_pureS rfl (by rfl) (exec_inv rfl (by rfl) (by walk_nrm <;> rfl)) (fun w => (kd36 w)) (by rfl) (.inr (.int _ _)) ?_; (try walk_nrm))
  (refine opsV_pureS (x := .bool true) (es := #[]) rfl (by rfl) (exec_bin rfl (by rfl) (by rfl)) (fun w => by kernel_rfl) (by rfl) (.inr (.bool _)) ?_; (try walk_nrm))
  (refine opsV_op_k rfl (by rfl) (fun B hn => opsH hn hgl (by first | rfl | kernel_rfl)) ?_; intro τ p K hK; go_simp; refine hK _ _ ?_; clear hK K p τ; (try walk_nrm))
  (refine opsV_op_k rfl (by rfl) (fun B hn => opsH hn hgl (by first | rfl | kernel_rfl)) ?_; intro τ p K hK; go_simp; refine hK _ _ ?_; clear hK K p τ; (try walk_nrm))
  refine opsV_readS (es := #[]) rfl (by rfl) (exec_load rfl (by rfl)) CG.out (fun w hw => ld71 hw) (by rfl) (pf_rty h6 _) ?_
  walk_nrm
  (refine opsV_pureS rfl (by rfl) (exec_inv rfl (by rfl) (by walk_nrm <;> rfl)) (fun w => (im36 w)) (by rfl) (.inr (.bool _)) ?_; (try walk_nrm))
  (refine opsV_op_k rfl (by rfl) (fun B hn => opsH hn hgl (by first | rfl | kernel_rfl)) ?_; intro τ p K hK; go_simp; refine hK _ _ ?_; clear hK K p τ; (try walk_nrm))
  (refine opsV_op_k rfl (by rfl) (fun B hn => opsH hn hgl (by first | rfl | kernel_rfl)) ?_; intro τ p K hK; go_simp; refine hK _ _ ?_; clear hK K p τ; (try walk_nrm))
  (refine opsV_nil ?_; (try dsimp only [thenV_normal, inBV_normal]))
  (refine wpV_cond_f rfl ?_)
  (refine wpV_skip ?_; (try dsimp only [thenV_normal, inBV_normal]))
  (refine wpV_seq ?_)
  (refine wpV_region ?_; simp only [List.size_toArray, List.length_cons, List.length_nil, Nat.reduceAdd, Nat.zero_add, List.range, List.range.loop])
  (refine opsV_op_k rfl (by rfl) (fun B hn => opsH hn hgl (by first | rfl | kernel_rfl)) ?_; intro τ p K hK; go_simp; refine hK _ _ ?_; clear hK K p τ; (try walk_nrm))
  (refine opsV_op_k rfl (by rfl) (fun B hn => opsH hn hgl (by first | rfl | kernel_rfl)) ?_; intro τ p K hK; go_simp; refine hK _ _ ?_; clear hK K p τ; (try walk_nrm))
  (refine opsV_op_k rfl (by rfl) (fun B hn => opsH hn hgl (by first | rfl | kernel_rfl)) ?_; intro τ p K hK; go_simp; refine hK _ _ ?_; clear hK K p τ; (try walk_nrm))
  (refine opsV_op_k rfl (by rfl) (fun B hn => opsH hn hgl (by first | rfl | kernel_rfl)) ?_; intro τ p K hK; go_simp; refine hK _ _ ?_; clear hK K p τ; (try walk_nrm))
  (refine opsV_enter (R := ?R154) rfl (by rfl) (run_callV rfl rfl Tryz.func21 (by kernel_rfl) rfl) (pf_call hgl (by rfl)) ?hc154 ?hn154; case hc154 => (walk_nrm; exact hcall))
  rintro F2 z v2 ⟨rfl, rfl, hR⟩
  walk_nrm
  (refine opsV_op_k rfl (by rfl) (fun B hn => opsH hn hgl (by first | rfl | kernel_rfl)) ?_; intro τ p K hK; go_simp; refine hK _ _ ?_; clear hK K p τ; (try walk_nrm))
  (refine opsV_nil ?_; (try dsimp only [thenV_normal, inBV_normal]))
  (refine wpV_ret ?_; (try dsimp only [thenV_ret, inBV_ret]))
  exact ⟨.inr rfl, rfl, _, resultsC_tmp (by rfl) _, rfl, rfl, u, HBL.out, hR⟩
set_option maxRecDepth 100000 in
set_option maxHeartbeats 8000000 in
theorem as_genIR {Gd : GB} {F : Nat → Prop} {v : World} (hgl : ∀ g, glH g = true → Gd g) (h6 : Gd 6) (e t : Addr) (he : Gd e.block) (htg : Gd t.block) (hE : ErrT v) (b : Bool) (RR : World → World → Prop)
    (hin : ∀ (v2 : World) (a : Addr), Bl v.heap.size v v2 → v2.cell? a = some (.pointer (some t)) → Gd a.block → CallsV Vh Tryz.prog Gd 21 #[.iface 36 (.pointer (some e)), .iface 39 (.pointer (some t)), rva 39 a 150, rty 35] F v2 fun F' z v' => F' = F ∧ z = .bool b ∧ RR v2 v') :
    CallsV Vh Tryz.prog Gd 9 #[.iface 36 (.pointer (some e)), .iface 39 (.pointer (some t))] F v fun F' z v' => F' = F ∧ z = .bool b ∧ ∃ v2, Bl v.heap.size v v2 ∧ RR v2 v' := by
  refine callsV_body Tryz.func9 (by rfl) (by kernel_rfl) ?_
  simp only [Tryz.ntmps9]
  (simp only [List.size_toArray, List.length_cons, List.length_nil, Nat.reduceAdd, Nat.reduceSub, Array.replicate_succ, Array.replicate_zero, List.push_toArray, List.append_toArray, List.nil_append, List.cons_append])
  obtain ⟨u, hu⟩ : ∃ u, u = (v.alloc (.cells #[.pointer (some t)] 39)).alloc (.cells #[hdl 39, .pointer (some ⟨v.heap.size, 0, none⟩), .int .u64 150] 68) := ⟨_, rfl⟩
  have hb1 : u.heap[v.heap.size + 1]? = some (.cells #[hdl 39, .pointer (some ⟨v.heap.size, 0, none⟩), .int .u64 150] 68) := by
    rw [hu]; exact newBlk _ _ _ (by simp)
  have hb0 : u.heap[v.heap.size]? = some (.cells #[.pointer (some t)] 39) := by
    rw [hu]; exact (Below.heap_alloc _ _ _ (by simp)).trans (heap_alloc_new v _)
  have c0 := cell_of_row u (v.heap.size + 1) 0 _ _ _ hb1
  have c1 := cell_of_row u (v.heap.size + 1) 1 _ _ _ hb1
  have c2 := cell_of_row u (v.heap.size + 1) 2 _ _ _ hb1
  have ca := cell_of_row u v.heap.size 0 _ _ _ hb0
  simp only [List.getElem?_toArray, List.getElem?_cons_zero, List.getElem?_cons_succ] at c0 c1 c2 ca
  have hbl : Bl v.heap.size v u := by rw [hu]; exact ((Bl.refl _ _).alloc (Nat.le_refl _) _).alloc (by simp) _
  have cg : u.cell? ⟨0, 0, none⟩ = some (rty 32) := (hbl.cell (p := ⟨0, 0, none⟩) (World.block_lt_of_cell? v _ hE)).trans hE
  have HU := Lib.hid hu
  have CA := Lib.hid ca
  have CG := Lib.hid cg
  have HBL := Lib.hid hbl
  clear hu hb1 hb0 ca cg hbl hE
  have tpc := tpC
  have tpf := tpF
  have tpa := tpA
  have tps := tpS
  have tph := tpH
  (refine wpV_seq ?_)
  (refine wpV_region ?_; simp only [List.size_toArray, List.length_cons, List.length_nil, Nat.reduceAdd, Nat.zero_add, List.range, List.range.loop])
  (refine opsV_op_k rfl (by rfl) (fun B hn => opsH hn hgl (by first | rfl | kernel_rfl)) ?_; intro τ p K hK; go_simp; refine hK _ _ ?_; clear hK K p τ; (try walk_nrm))
  (refine opsV_nil ?_; (try dsimp only [thenV_normal, inBV_normal]))
  (refine wpV_seq ?_)
  (refine wpV_seq ?_)
  (refine wpV_region ?_; simp only [List.size_toArray, List.length_cons, List.length_nil, Nat.reduceAdd, Nat.zero_add, List.range, List.range.loop])
  (refine opsV_op_k rfl (by rfl) (fun B hn => opsH hn hgl (by first | rfl | kernel_rfl)) ?_; intro τ p K hK; go_simp; refine hK _ _ ?_; clear hK K p τ; (try walk_nrm))
  (refine opsV_pureS (x := .bool false) (es := #[]) rfl (by rfl) (exec_bin rfl (by rfl) (by rfl)) (fun w => by kernel_rfl) (by rfl) (.inr (.bool _)) ?_; (try walk_nrm))
  (refine opsV_nil ?_; (try dsimp only [thenV_normal, inBV_normal]))
  (refine wpV_cond_f rfl ?_)
  (refine wpV_skip ?_; (try dsimp only [thenV_normal, inBV_normal]))
  (refine wpV_seq ?_)
  (refine wpV_seq ?_)
  (refine wpV_region ?_; simp only [List.size_toArray, List.length_cons, List.length_nil, Nat.reduceAdd, Nat.zero_add, List.range, List.range.loop])
  (refine opsV_op_k rfl (by rfl) (fun B hn => opsH hn hgl (by first | rfl | kernel_rfl)) ?_; intro τ p K hK; go_simp; refine hK _ _ ?_; clear hK K p τ; (try walk_nrm))
  (refine opsV_pureS (x := .bool false) (es := #[]) rfl (by rfl) (exec_bin rfl (by rfl) (by rfl)) (fun w => by kernel_rfl) (by rfl) (.inr (.bool _)) ?_; (try walk_nrm))
  (refine opsV_nil ?_; (try dsimp only [thenV_normal, inBV_normal]))
  (refine wpV_cond_f rfl ?_)
  (refine wpV_skip ?_; (try dsimp only [thenV_normal, inBV_normal]))
  (refine wpV_seq ?_)
  (refine wpV_region ?_; simp only [List.size_toArray, List.length_cons, List.length_nil, Nat.reduceAdd, Nat.zero_add, List.range, List.range.loop])
  (refine opsV_op_k rfl (by rfl) (fun B hn => opsH hn hgl (by first | rfl | kernel_rfl)) ?_; intro τ p K hK; go_simp; refine hK _ _ ?_; clear hK K p τ; (try walk_nrm))
  (refine opsV_newS (x := rva 39 ⟨v.heap.size, 0, none⟩ 150) (ob := .cells #[.pointer (some t)] 39) (es := #[xev 18]) rfl (by rfl) (exec_call rfl (by walk_nrm <;> rfl)) (fun w hw => (voN39 t w hw)) (by rfl) (fun B hn x hx => by (simp only [List.mem_toArray, List.mem_singleton] at hx; subst hx; exact .inr (.ptr htg))) (fun B hn hs => pf_rva h6 _ (hn _ hs) _) ?_; (try walk_nrm))
  (refine opsV_op_k rfl (by rfl) (fun B hn => opsH hn hgl (by first | rfl | kernel_rfl)) ?_; intro τ p K hK; go_simp; refine hK _ _ ?_; clear hK K p τ; (try walk_nrm))
  (refine opsV_op_k rfl (by rfl) (fun B hn => opsH hn hgl (by first | rfl | kernel_rfl)) ?_; intro τ p K hK; go_simp; refine hK _ _ ?_; clear hK K p τ; (try walk_nrm))
  (refine opsV_nil ?_; (try dsimp only [thenV_normal, inBV_normal]))
  have hcall : CallsV Vh Tryz.prog Gd 21 #[.iface 36 (.pointer (some e)), .iface 39 (.pointer (some t)), rva 39 ⟨v.heap.size, 0, none⟩ 150, rty 35] F u fun F' z v' => F' = F ∧ z = .bool b ∧ RR u v' := fun Post c cs ha hK => hin u ⟨v.heap.size, 0, none⟩ HBL.out CA.out (gd_rva (ha (rva 39 ⟨v.heap.size, 0, none⟩ 150) (by simp))) Post c cs ha hK
  clear hin
  rw [show (v.alloc (.cells #[.pointer (some t)] 39)).alloc (.cells #[.pointer (some ⟨6, 39, none⟩), .pointer (some ⟨v.heap.size, 0, none⟩), .int .u64 150] 68) = u from HU.out.symm]
  (refine wpV_seq ?_)
  (refine wpV_region ?_; simp only [List.size_toArray, List.length_cons, List.length_nil, Nat.reduceAdd, Nat.zero_add, List.range, List.range.loop])
  (refine opsV_op_k rfl (by rfl) (fun B hn => opsH hn hgl (by first | rfl | kernel_rfl)) ?_; intro τ p K hK; go_simp; refine hK _ _ ?_; clear hK K p τ; (try walk_nrm))
  (refine opsV_pureS rfl (by rfl) (exec_call rfl (by walk_nrm <;> rfl)) (fun w => (ty39 ⟨v.heap.size, 0, none⟩ w)) (by rfl) (pf_rty h6 _) ?_; (try walk_nrm))
  (refine opsV_op_k rfl (by rfl) (fun B hn => opsH hn hgl (by first | rfl | kernel_rfl)) ?_; intro τ p K hK; go_simp; refine hK _ _ ?_; clear hK K p τ; (try walk_nrm))
  (refine opsV_nil ?_; (try dsimp only [thenV_normal, inBV_normal]))
  (refine wpV_seq ?_)
  (refine wpV_seq ?_)
  (refine wpV_region ?_; simp only [List.size_toArray, List.length_cons, List.length_nil, Nat.reduceAdd, Nat.zero_add, List.range, List.range.loop])
  (refine opsV_op_k rfl (by rfl) (fun B hn => opsH hn hgl (by first | rfl | kernel_rfl)) ?_; intro τ p K hK; go_simp; refine hK _ _ ?_; clear hK K p τ; (try walk_nrm))
  (refine opsV_pureS rfl (by rfl) (exec_inv rfl (by rfl) (by walk_nrm <;> rfl)) (fun w => (kd39 w)) (by rfl) (.inr (.int _ _)) ?_; (try walk_nrm))
  (refine opsV_pureS (x := .bool false) (es := #[]) rfl (by rfl) (exec_bin rfl (by rfl) (by rfl)) (fun w => by kernel_rfl) (by rfl) (.inr (.bool _)) ?_; (try walk_nrm))
  (refine opsV_op_k rfl (by rfl) (fun B hn => opsH hn hgl (by first | rfl | kernel_rfl)) ?_; intro τ p K hK; go_simp; refine hK _ _ ?_; clear hK K p τ; (try walk_nrm))
  (refine opsV_op_k rfl (by rfl) (fun B hn => opsH hn hgl (by first | rfl | kernel_rfl)) ?_; intro τ p K hK; go_simp; refine hK _ _ ?_; clear hK K p τ; (try walk_nrm))
  (refine opsV_readS (es := #[xev 20]) rfl (by rfl) (exec_call rfl (by walk_nrm <;> rfl)) (CA.out) (fun w hw => (nl39 hw)) (by rfl) (.inr (.bool _)) ?_; (try walk_nrm))
  (refine opsV_op_k rfl (by rfl) (fun B hn => opsH hn hgl (by first | rfl | kernel_rfl)) ?_; intro τ p K hK; go_simp; refine hK _ _ ?_; clear hK K p τ; (try walk_nrm))
  (refine opsV_nil ?_; (try dsimp only [thenV_normal, inBV_normal]))
  (refine wpV_cond_f rfl ?_)
  (refine wpV_skip ?_; (try dsimp only [thenV_normal, inBV_normal]))
  (refine wpV_seq ?_)
  (refine wpV_region ?_; simp only [List.size_toArray, List.length_cons, List.length_nil, Nat.reduceAdd, Nat.zero_add, List.range, List.range.loop])
  (refine opsV_op_k rfl (by rfl) (fun B hn => opsH hn hgl (by first | rfl | kernel_rfl)) ?_; intro τ p K hK; go_simp; refine hK _ _ ?_; clear hK K p τ; (try walk_nrm))
  (refine opsV_pureS rfl (by rfl) (exec_inv rfl (by rfl) (by walk_nrm <;> rfl)) (fun w => (el39 w)) (by rfl) (pf_rty h6 _) ?_; (try walk_nrm))
  (refine opsV_op_k rfl (by rfl) (fun B hn => opsH hn hgl (by first | rfl | kernel_rfl)) ?_; intro τ p K hK; go_simp; refine hK _ _ ?_; clear hK K p τ; (try walk_nrm))
  (refine opsV_nil ?_; (try dsimp only [thenV_normal, inBV_normal]))
  (refine wpV_seq ?_)
  (refine wpV_seq ?_)
  (refine wpV_region ?_; simp only [List.size_toArray, List.length_cons, List.length_nil, Nat.reduceAdd, Nat.zero_add, List.range, List.range.loop])
  (refine opsV_op_k rfl (by rfl) (fun B hn => opsH hn hgl (by first | rfl | kernel_rfl)) ?_; intro τ p K hK; go_simp; refine hK _ _ ?_; clear hK K p τ; (try walk_nrm))
  (refine opsV_pureS rfl (by rfl) (exec_inv rfl (by rfl) (by walk_nrm <;> rfl)) (fun w => (kd35 w)) (by rfl) (.inr (.int _ _)) ?_; (try walk_nrm))
  (refine opsV_pureS (x := .bool true) (es := #[]) rfl (by rfl) (exec_bin rfl (by rfl) (by rfl)) (fun w => by kernel_rfl) (by rfl) (.inr (.bool _)) ?_; (try walk_nrm))
  (refine opsV_op_k rfl (by rfl) (fun B hn => opsH hn hgl (by first | rfl | kernel_rfl)) ?_; intro τ p K hK; go_simp; refine hK _ _ ?_; clear hK K p τ; (try walk_nrm))
  (refine opsV_op_k rfl (by rfl) (fun B hn => opsH hn hgl (by first | rfl | kernel_rfl)) ?_; intro τ p K hK; go_simp; refine hK _ _ ?_; clear hK K p τ; (try walk_nrm))
  refine opsV_readS (es := #[]) rfl (by rfl) (exec_load rfl (by rfl)) CG.out (fun w hw => ld71 hw) (by rfl) (pf_rty h6 _) ?_
  walk_nrm
  (refine opsV_pureS rfl (by rfl) (exec_inv rfl (by rfl) (by walk_nrm <;> rfl)) (fun w => (im35 w)) (by rfl) (.inr (.bool _)) ?_; (try walk_nrm))
  (refine opsV_op_k rfl (by rfl) (fun B hn => opsH hn hgl (by first | rfl | kernel_rfl)) ?_; intro τ p K hK; go_simp; refine hK _ _ ?_; clear hK K p τ; (try walk_nrm))
  (refine opsV_op_k rfl (by rfl) (fun B hn => opsH hn hgl (by first | rfl | kernel_rfl)) ?_; intro τ p K hK; go_simp; refine hK _ _ ?_; clear hK K p τ; (try walk_nrm))
  (refine opsV_nil ?_; (try dsimp only [thenV_normal, inBV_normal]))
  (refine wpV_cond_f rfl ?_)
  (refine wpV_skip ?_; (try dsimp only [thenV_normal, inBV_normal]))
  (refine wpV_seq ?_)
  (refine wpV_region ?_; simp only [List.size_toArray, List.length_cons, List.length_nil, Nat.reduceAdd, Nat.zero_add, List.range, List.range.loop])
  (refine opsV_op_k rfl (by rfl) (fun B hn => opsH hn hgl (by first | rfl | kernel_rfl)) ?_; intro τ p K hK; go_simp; refine hK _ _ ?_; clear hK K p τ; (try walk_nrm))
  (refine opsV_op_k rfl (by rfl) (fun B hn => opsH hn hgl (by first | rfl | kernel_rfl)) ?_; intro τ p K hK; go_simp; refine hK _ _ ?_; clear hK K p τ; (try walk_nrm))
  (refine opsV_op_k rfl (by rfl) (fun B hn => opsH hn hgl (by first | rfl | kernel_rfl)) ?_; intro τ p K hK; go_simp; refine hK _ _ ?_; clear hK K p τ; (try walk_nrm))
  (refine opsV_op_k rfl (by rfl) (fun B hn => opsH hn hgl (by first | rfl | kernel_rfl)) ?_; intro τ p K hK; go_simp; refine hK _ _ ?_; clear hK K p τ; (try walk_nrm))
  (refine opsV_enter (R := ?R231) rfl (by rfl) (run_callV rfl rfl Tryz.func21 (by kernel_rfl) rfl) (pf_call hgl (by rfl)) ?hc231 ?hn231; case hc231 => (walk_nrm; exact hcall))
  rintro F2 z v2 ⟨rfl, rfl, hR⟩
  walk_nrm
  (refine opsV_op_k rfl (by rfl) (fun B hn => opsH hn hgl (by first | rfl | kernel_rfl)) ?_; intro τ p K hK; go_simp; refine hK _ _ ?_; clear hK K p τ; (try walk_nrm))
  (refine opsV_nil ?_; (try dsimp only [thenV_normal, inBV_normal]))
  (refine wpV_ret ?_; (try dsimp only [thenV_ret, inBV_ret]))
  exact ⟨.inr rfl, rfl, _, resultsC_tmp (by rfl) _, rfl, rfl, u, HBL.out, hR⟩
end Go.Proofs.YtmmjlngbiilagaaGreatDoor
