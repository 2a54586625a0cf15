/-
  GOROUTINE 0's WALK: errors.as at another target: the rejected message's error is asked, in vain; errors.Is: it is found behind the rejected message.
-/
import Derived.Test.YtmmjlngbiilagaaGreatDoorT22

namespace Go.Proofs.YtmmjlngbiilagaaGreatDoor
open Go Go.Conc Go.Shelf Go.RowKit Go.Lib

theorem exec_ta {a : Act} {o : Oper} {t u : TypeId} {b : Bool} {x : Operand} {pv : Value} (hop : o.op = .typeAssert x t u b) (hx : a.eval x = pv) : execOp a.eval o = (Instr.typeAssert pv t u b).bind fun z => .pure (.value z) := by
  subst hx
  unfold execOp
  simp only [hop]
  rfl
theorem ta_val {pv z : Value} {t u : TypeId} {b : Bool} {w : World} (h : (Instr.typeAssert pv t u b).runT Tryz.prog w #[] = (.ok z w, #[])) : ((Instr.typeAssert pv t u b).bind fun z => .pure (.value z) : Sem Next).runT Tryz.prog w #[] = (.ok (.value z) w, #[]) := (runT_bd h).trans rfl
theorem ta36a (v : Value) (w : World) : (Instr.typeAssert (.iface 36 v) 32 102 true).runT Tryz.prog w #[] = (.ok (.tuple #[.nilIface, .bool false]) w, #[]) := ta_no Tryz.underlying102 (by kernel_rfl) (by kernel_rfl) w
theorem ta55a (v : Value) (w : World) : (Instr.typeAssert (.iface 55 v) 32 102 true).runT Tryz.prog w #[] = (.ok (.tuple #[.nilIface, .bool false]) w, #[]) := ta_no Tryz.underlying102 (by kernel_rfl) (by kernel_rfl) w
theorem ta36i (v : Value) (w : World) : (Instr.typeAssert (.iface 36 v) 32 111 true).runT Tryz.prog w #[] = (.ok (.tuple #[.nilIface, .bool false]) w, #[]) := ta_no Tryz.underlying111 (by kernel_rfl) (by kernel_rfl) w
theorem ta55u (v : Value) (w : World) : (Instr.typeAssert (.iface 55 v) 32 105 true).runT Tryz.prog w #[] = (.ok (.tuple #[.nilIface, .bool false]) w, #[]) := ta_no Tryz.underlying105 (by kernel_rfl) (by kernel_rfl) w
theorem ta55v (v : Value) (w : World) : (Instr.typeAssert (.iface 55 v) 32 107 true).runT Tryz.prog w #[] = (.ok (.tuple #[.nilIface, .bool false]) w, #[]) := ta_no Tryz.underlying107 (by kernel_rfl) (by kernel_rfl) w
theorem ta36u (p : Addr) (w : World) : (Instr.typeAssert (.iface 36 (.pointer (some p))) 32 105 true).runT Tryz.prog w #[] = (.ok (.tuple #[.iface 36 (.pointer (some p)), .bool true]) w, #[]) := by kernel_rfl
abbrev refV : Value := .iface 55 (.agg #[])
section
variable {Gd : GB} {F : Nat → Prop} {v : World}
theorem pf_ref : PF Gd refV := .iface _ (.agg fun x hx => by simp at hx)
theorem pf_tf : PFg Gd (.tuple #[.nilIface, .bool false]) := .inr (.tuple fun x hx => by
  simp only [List.mem_toArray, List.mem_cons, List.not_mem_nil, or_false] at hx
  rcases hx with rfl | rfl
  · exact .nilIface
  · exact .bool _)
theorem pf_tt {e : Addr} (he : Gd e.block) : PFg Gd (.tuple #[.iface 36 (.pointer (some e)), .bool true]) := .inr (.tuple fun x hx => by
  simp only [List.mem_toArray, List.mem_cons, List.not_mem_nil, or_false] at hx
  rcases hx with rfl | rfl
  · exact .iface _ (.ptr he)
  · exact .bool _)
set_option maxRecDepth 100000 in
set_option maxHeartbeats 4000000 in
theorem unwrap_callsV (hgl : ∀ g, glH g = true → Gd g) (g : Nat) (hc : v.cell? ⟨g, 4, none⟩ = some refV) :
    CallsV Vh Tryz.prog Gd 129 #[.pointer (some ⟨g, 0, none⟩)] F v fun F' z v' => F' = F ∧ z = refV ∧ v' = v := by
  refine callsV_body Tryz.func129 (by rfl) (by kernel_rfl) ?_
  simp only [Tryz.ntmps129]
  (simp only [List.size_toArray, List.length_cons, List.length_nil, Nat.reduceAdd, Nat.reduceSub, Array.replicate_succ, Array.replicate_zero, List.push_toArray, List.append_toArray, List.nil_append, List.cons_append])
  (have tpc := tpC; have tpf := tpF; have tpa := tpA; have tps := tpS; have tph := tpH)
  (refine wpV_seq ?_)
  (refine wpV_region ?_; simp only [List.size_toArray, List.length_cons, List.length_nil, Nat.reduceAdd, Nat.zero_add, List.range, List.range.loop])
  (refine opsV_op_k rfl (by rfl) (fun B hn => opsH hn hgl (by first | rfl | kernel_rfl)) ?_; intro τ p K hK; go_simp; refine hK _ _ ?_; clear hK K p τ; (try walk_nrm))
  (refine opsV_nil ?_; (try dsimp only [thenV_normal, inBV_normal]))
  (refine wpV_seq ?_)
  (refine wpV_seq ?_)
  (refine wpV_region ?_; simp only [List.size_toArray, List.length_cons, List.length_nil, Nat.reduceAdd, Nat.zero_add, List.range, List.range.loop])
  (refine opsV_op_k rfl (by rfl) (fun B hn => opsH hn hgl (by first | rfl | kernel_rfl)) ?_; intro τ p K hK; go_simp; refine hK _ _ ?_; clear hK K p τ; (try walk_nrm))
  (refine opsV_pureS (x := .bool false) (es := #[]) rfl (by rfl) (exec_bin rfl (by rfl) (by rfl)) (fun w => by kernel_rfl) (by rfl) (.inr (.bool _)) ?_; (try walk_nrm))
  (refine opsV_nil ?_; (try dsimp only [thenV_normal, inBV_normal]))
  (refine wpV_cond_f rfl ?_)
  (refine wpV_skip ?_; (try dsimp only [thenV_normal, inBV_normal]))
  (refine wpV_seq ?_)
  (refine wpV_region ?_; simp only [List.size_toArray, List.length_cons, List.length_nil, Nat.reduceAdd, Nat.zero_add, List.range, List.range.loop])
  (refine opsV_op_k rfl (by rfl) (fun B hn => opsH hn hgl (by first | rfl | kernel_rfl)) ?_; intro τ p K hK; go_simp; refine hK _ _ ?_; clear hK K p τ; (try walk_nrm))
  (refine opsV_op_k rfl (by rfl) (fun B hn => opsH hn hgl (by first | rfl | kernel_rfl)) ?_; intro τ p K hK; go_simp; refine hK _ _ ?_; clear hK K p τ; (try walk_nrm))
  (refine opsV_op_k rfl (by rfl) (fun B hn => opsH hn hgl (by first | rfl | kernel_rfl)) ?_; intro τ p K hK; go_simp; refine hK _ _ ?_; clear hK K p τ; (try walk_nrm))
  (refine opsV_op_k rfl (by rfl) (fun B hn => opsH hn hgl (by first | rfl | kernel_rfl)) ?_; intro τ p K hK; go_simp; refine hK _ _ ?_; clear hK K p τ; (try walk_nrm))
  (refine opsV_op_k rfl (by rfl) (fun B hn => opsH hn hgl (by first | rfl | kernel_rfl)) ?_; intro τ p K hK; go_simp; refine hK _ _ ?_; clear hK K p τ; (try walk_nrm))
  (refine opsV_nil ?_; (try dsimp only [thenV_normal, inBV_normal]))
  (refine wpV_ret ?_; (try dsimp only [thenV_ret, inBV_ret]))
  exact ⟨.inr rfl, rfl, _, resultsC_tmp (by rfl) _, rfl, rfl, rfl⟩
set_option maxRecDepth 100000 in
set_option maxHeartbeats 8000000 in
theorem as_miss (hgl : ∀ g, glH g = true → Gd g) (h6 : Gd 6) (g : Nat) (hg : Gd g) (t a : Addr) (hc : v.cell? ⟨g, 4, none⟩ = some refV) :
    CallsV Vh Tryz.prog Gd 21 #[.iface 36 (.pointer (some ⟨g, 0, none⟩)), .iface 39 (.pointer (some t)), rva 39 a 150, rty 35] F v fun F' z v' => F' = F ∧ z = .bool false ∧ Bl v.heap.size v v' := by
  refine callsV_body Tryz.func21 (by rfl) (by kernel_rfl) ?_
  simp only [Tryz.ntmps21]
  (simp only [List.size_toArray, List.length_cons, List.length_nil, Nat.reduceAdd, Nat.reduceSub, Array.replicate_succ, Array.replicate_zero, List.push_toArray, List.append_toArray, List.nil_append, List.cons_append])
  obtain ⟨u, hu⟩ : ∃ u, u = v.alloc (.cells #[hdl 39, .pointer (some a), .int .u64 150] 68) := ⟨_, rfl⟩
  have hu1 : u.cell? ⟨g, 4, none⟩ = some refV := by rw [hu]; exact (World.cell?_alloc_lt _ _ _ (World.block_lt_of_cell? v _ hc)).trans hc
  have hbl : Bl v.heap.size v u := by rw [hu]; exact (Bl.refl _ _).alloc (Nat.le_refl _) _
  have HU := Lib.hid hu
  have HBL := Lib.hid hbl
  have hun := unwrap_callsV (Gd := Gd) (F := F) (v := u) hgl g hu1
  clear hu hbl hc
  (have tpc := tpC; have tpf := tpF; have tpa := tpA; have tps := tpS; have tph := tpH)
  (refine wpV_seq ?_)
  (refine wpV_region ?_; simp only [List.size_toArray, List.length_cons, List.length_nil, Nat.reduceAdd, Nat.zero_add, List.range, List.range.loop])
  (refine opsV_op_k rfl (by rfl) (fun B hn => opsH hn hgl (by first | rfl | kernel_rfl)) ?_; intro τ p K hK; go_simp; refine hK _ _ ?_; clear hK K p τ; (try walk_nrm))
  (refine opsV_op_k rfl (by rfl) (fun B hn => opsH hn hgl (by first | rfl | kernel_rfl)) ?_; intro τ p K hK; go_simp; refine hK _ _ ?_; clear hK K p τ; (try walk_nrm))
  (refine opsV_nil ?_; (try dsimp only [thenV_normal, inBV_normal]))
  rw [show v.alloc (.cells #[.pointer (some ⟨6, 39, none⟩), .pointer (some a), .int .u64 150] 68) = u from HU.out.symm]
  (refine wpV_block ?_)
  refine wpV_loop_rounds 2 ?_
  unfold RoundsV
  (refine wpV_block ?_)
  (refine wpV_seq ?_)
  (refine wpV_seq ?_)
  (refine wpV_region ?_; simp only [List.size_toArray, List.length_cons, List.length_nil, Nat.reduceAdd, Nat.zero_add, List.range, List.range.loop])
  (refine opsV_op_k rfl (by rfl) (fun B hn => opsH hn hgl (by first | rfl | kernel_rfl)) ?_; intro τ p K hK; go_simp; refine hK _ _ ?_; clear hK K p τ; (try walk_nrm))
  (refine opsV_pureS rfl (by rfl) (exec_call rfl (by walk_nrm <;> rfl)) (fun w => (to36 (.pointer (some ⟨g, 0, none⟩)) w)) (by rfl) (pf_rty h6 _) ?_; (try walk_nrm))
  (refine opsV_op_k rfl (by rfl) (fun B hn => opsH hn hgl (by first | rfl | kernel_rfl)) ?_; intro τ p K hK; go_simp; refine hK _ _ ?_; clear hK K p τ; (try walk_nrm))
  (refine opsV_pureS rfl (by rfl) (exec_inv rfl (by rfl) (by walk_nrm <;> rfl)) (fun w => (as3635 w)) (by rfl) (.inr (.bool _)) ?_; (try walk_nrm))
  (refine opsV_nil ?_; (try dsimp only [thenV_normal, inBV_normal]))
  (refine wpV_cond_f rfl ?_)
  (refine wpV_skip ?_; (try dsimp only [thenV_normal, inBV_normal]))
  (refine wpV_seq ?_)
  (refine wpV_seq ?_)
  (refine wpV_region ?_; simp only [List.size_toArray, List.length_cons, List.length_nil, Nat.reduceAdd, Nat.zero_add, List.range, List.range.loop])
  (refine opsV_op_k rfl (by rfl) (fun B hn => opsH hn hgl (by first | rfl | kernel_rfl)) ?_; intro τ p K hK; go_simp; refine hK _ _ ?_; clear hK K p τ; (try walk_nrm))
  (refine opsV_pureS (x := .tuple #[.nilIface, .bool false]) (es := #[]) rfl (by rfl) (exec_ta rfl (by rfl)) (fun w => (ta_val (ta36a _ w))) (by rfl) (pf_tf) ?_; (try walk_nrm))
  (refine opsV_op_k rfl (by rfl) (fun B hn => opsH hn hgl (by first | rfl | kernel_rfl)) ?_; intro τ p K hK; go_simp; refine hK _ _ ?_; clear hK K p τ; (try walk_nrm))
  (refine opsV_op_k rfl (by rfl) (fun B hn => opsH hn hgl (by first | rfl | kernel_rfl)) ?_; intro τ p K hK; go_simp; refine hK _ _ ?_; clear hK K p τ; (try walk_nrm))
  (refine opsV_op_k rfl (by rfl) (fun B hn => opsH hn hgl (by first | rfl | kernel_rfl)) ?_; intro τ p K hK; go_simp; refine hK _ _ ?_; clear hK K p τ; (try walk_nrm))
  (refine opsV_op_k rfl (by rfl) (fun B hn => opsH hn hgl (by first | rfl | kernel_rfl)) ?_; intro τ p K hK; go_simp; refine hK _ _ ?_; clear hK K p τ; (try walk_nrm))
  (refine opsV_op_k rfl (by rfl) (fun B hn => opsH hn hgl (by first | rfl | kernel_rfl)) ?_; intro τ p K hK; go_simp; refine hK _ _ ?_; clear hK K p τ; (try walk_nrm))
  (refine opsV_nil ?_; (try dsimp only [thenV_normal, inBV_normal]))
  (refine wpV_seq ?_)
  (refine wpV_region ?_; simp only [List.size_toArray, List.length_cons, List.length_nil, Nat.reduceAdd, Nat.zero_add, List.range, List.range.loop])
  (refine opsV_op_k rfl (by rfl) (fun B hn => opsH hn hgl (by first | rfl | kernel_rfl)) ?_; intro τ p K hK; go_simp; refine hK _ _ ?_; clear hK K p τ; (try walk_nrm))
  (refine opsV_op_k rfl (by rfl) (fun B hn => opsH hn hgl (by first | rfl | kernel_rfl)) ?_; intro τ p K hK; go_simp; refine hK _ _ ?_; clear hK K p τ; (try walk_nrm))
  (refine opsV_unwanted rfl (by rfl) ?_; (try walk_nrm))
  (refine opsV_unwanted rfl (by rfl) ?_; (try walk_nrm))
  (refine opsV_unwanted rfl (by rfl) ?_; (try walk_nrm))
  (refine opsV_op_k rfl (by rfl) (fun B hn => opsH hn hgl (by first | rfl | kernel_rfl)) ?_; intro τ p K hK; go_simp; refine hK _ _ ?_; clear hK K p τ; (try walk_nrm))
  (refine opsV_nil ?_; (try dsimp only [thenV_normal, inBV_normal]))
  (refine wpV_cond_f rfl ?_)
  (refine wpV_skip ?_; (try dsimp only [thenV_normal, inBV_normal]))
  (refine wpV_seq ?_)
  (refine wpV_region ?_; simp only [List.size_toArray, List.length_cons, List.length_nil, Nat.reduceAdd, Nat.zero_add, List.range, List.range.loop])
  (refine opsV_op_k rfl (by rfl) (fun B hn => opsH hn hgl (by first | rfl | kernel_rfl)) ?_; intro τ p K hK; go_simp; refine hK _ _ ?_; clear hK K p τ; (try walk_nrm))
  (refine opsV_nil ?_; (try dsimp only [thenV_normal, inBV_normal]))
  (refine wpV_block ?_)
  (refine wpV_seq ?_)
  (refine wpV_region ?_; simp only [List.size_toArray, List.length_cons, List.length_nil, Nat.reduceAdd, Nat.zero_add, List.range, List.range.loop])
  (refine opsV_pureS (x := .tuple #[.iface 36 (.pointer (some ⟨g, 0, none⟩)), .bool true]) (es := #[]) rfl (by rfl) (exec_ta rfl (by rfl)) (fun w => (ta_val (ta36u _ w))) (by rfl) (pf_tt hg) ?_; (try walk_nrm))
  (refine opsV_op_k rfl (by rfl) (fun B hn => opsH hn hgl (by first | rfl | kernel_rfl)) ?_; intro τ p K hK; go_simp; refine hK _ _ ?_; clear hK K p τ; (try walk_nrm))
  (refine opsV_op_k rfl (by rfl) (fun B hn => opsH hn hgl (by first | rfl | kernel_rfl)) ?_; intro τ p K hK; go_simp; refine hK _ _ ?_; clear hK K p τ; (try walk_nrm))
  (refine opsV_nil ?_; (try dsimp only [thenV_normal, inBV_normal]))
  (refine wpV_cond_t rfl ?_)
  (refine wpV_seq ?_)
  (refine wpV_region ?_; simp only [List.size_toArray, List.length_cons, List.length_nil, Nat.reduceAdd, Nat.zero_add, List.range, List.range.loop])
  (refine opsV_op_k rfl (by rfl) (fun B hn => opsH hn hgl (by first | rfl | kernel_rfl)) ?_; intro τ p K hK; go_simp; refine hK _ _ ?_; clear hK K p τ; (try walk_nrm))
  (refine opsV_nil ?_; (try dsimp only [thenV_normal, inBV_normal]))
  (refine wpV_seq ?_)
  (refine wpV_region ?_; simp only [List.size_toArray, List.length_cons, List.length_nil, Nat.reduceAdd, Nat.zero_add, List.range, List.range.loop])
  (refine opsV_op_k rfl (by rfl) (fun B hn => opsH hn hgl (by first | rfl | kernel_rfl)) ?_; intro τ p K hK; go_simp; refine hK _ _ ?_; clear hK K p τ; (try walk_nrm))
  refine opsV_enterS (R := ?R) rfl (by rfl) (exec_inv rfl (by rfl) (by walk_nrm <;> rfl)) (fun w => un36 ⟨g, 0, none⟩ w) ?ha ?hc ?hn
  case hc => exact hun
  case ha => exact fun x hx => by (simp only [List.mem_toArray, List.mem_singleton] at hx; subst hx; exact .inr (.ptr hg))
  rintro F2 z v2 ⟨rfl, rfl, rfl⟩
  walk_nrm
  (refine opsV_op_k rfl (by rfl) (fun B hn => opsH hn hgl (by first | rfl | kernel_rfl)) ?_; intro τ p K hK; go_simp; refine hK _ _ ?_; clear hK K p τ; (try walk_nrm))
  (refine opsV_nil ?_; (try dsimp only [thenV_normal, inBV_normal]))
  (refine wpV_seq ?_)
  (refine wpV_region ?_; simp only [List.size_toArray, List.length_cons, List.length_nil, Nat.reduceAdd, Nat.zero_add, List.range, List.range.loop])
  (refine opsV_op_k rfl (by rfl) (fun B hn => opsH hn hgl (by first | rfl | kernel_rfl)) ?_; intro τ p K hK; go_simp; refine hK _ _ ?_; clear hK K p τ; (try walk_nrm))
  (refine opsV_pureS (x := .bool false) (es := #[]) rfl (by rfl) (exec_bin rfl (by rfl) (by rfl)) (fun w => by kernel_rfl) (by rfl) (.inr (.bool _)) ?_; (try walk_nrm))
  (refine opsV_nil ?_; (try dsimp only [thenV_normal, inBV_normal]))
  (refine wpV_cond_f rfl ?_)
  (refine wpV_skip ?_; (try dsimp only [thenV_normal, inBV_normal]))
  unfold RoundsV
  (refine wpV_block ?_)
  (refine wpV_seq ?_)
  (refine wpV_seq ?_)
  (refine wpV_region ?_; simp only [List.size_toArray, List.length_cons, List.length_nil, Nat.reduceAdd, Nat.zero_add, List.range, List.range.loop])
  (refine opsV_op_k rfl (by rfl) (fun B hn => opsH hn hgl (by first | rfl | kernel_rfl)) ?_; intro τ p K hK; go_simp; refine hK _ _ ?_; clear hK K p τ; (try walk_nrm))
  (refine opsV_pureS rfl (by rfl) (exec_call rfl (by walk_nrm <;> rfl)) (fun w => (to55 (.agg #[]) w)) (by rfl) (pf_rty h6 _) ?_; (try walk_nrm))
  (refine opsV_op_k rfl (by rfl) (fun B hn => opsH hn hgl (by first | rfl | kernel_rfl)) ?_; intro τ p K hK; go_simp; refine hK _ _ ?_; clear hK K p τ; (try walk_nrm))
  (refine opsV_pureS rfl (by rfl) (exec_inv rfl (by rfl) (by walk_nrm <;> rfl)) (fun w => (as5535 w)) (by rfl) (.inr (.bool _)) ?_; (try walk_nrm))
  (refine opsV_nil ?_; (try dsimp only [thenV_normal, inBV_normal]))
  (refine wpV_cond_f rfl ?_)
  (refine wpV_skip ?_; (try dsimp only [thenV_normal, inBV_normal]))
  (refine wpV_seq ?_)
  (refine wpV_seq ?_)
  (refine wpV_region ?_; simp only [List.size_toArray, List.length_cons, List.length_nil, Nat.reduceAdd, Nat.zero_add, List.range, List.range.loop])
  (refine opsV_op_k rfl (by rfl) (fun B hn => opsH hn hgl (by first | rfl | kernel_rfl)) ?_; intro τ p K hK; go_simp; refine hK _ _ ?_; clear hK K p τ; (try walk_nrm))
  (refine opsV_pureS (x := .tuple #[.nilIface, .bool false]) (es := #[]) rfl (by rfl) (exec_ta rfl (by rfl)) (fun w => (ta_val (ta55a _ w))) (by rfl) (pf_tf) ?_; (try walk_nrm))
  (refine opsV_op_k rfl (by rfl) (fun B hn => opsH hn hgl (by first | rfl | kernel_rfl)) ?_; intro τ p K hK; go_simp; refine hK _ _ ?_; clear hK K p τ; (try walk_nrm))
  (refine opsV_op_k rfl (by rfl) (fun B hn => opsH hn hgl (by first | rfl | kernel_rfl)) ?_; intro τ p K hK; go_simp; refine hK _ _ ?_; clear hK K p τ; (try walk_nrm))
  (refine opsV_op_k rfl (by rfl) (fun B hn => opsH hn hgl (by first | rfl | kernel_rfl)) ?_; intro τ p K hK; go_simp; refine hK _ _ ?_; clear hK K p τ; (try walk_nrm))
  (refine opsV_op_k rfl (by rfl) (fun B hn => opsH hn hgl (by first | rfl | kernel_rfl)) ?_; intro τ p K hK; go_simp; refine hK _ _ ?_; clear hK K p τ; (try walk_nrm))
  (refine opsV_op_k rfl (by rfl) (fun B hn => opsH hn hgl (by first | rfl | kernel_rfl)) ?_; intro τ p K hK; go_simp; refine hK _ _ ?_; clear hK K p τ; (try walk_nrm))
  (refine opsV_nil ?_; (try dsimp only [thenV_normal, inBV_normal]))
  (refine wpV_seq ?_)
  (refine wpV_region ?_; simp only [List.size_toArray, List.length_cons, List.length_nil, Nat.reduceAdd, Nat.zero_add, List.range, List.range.loop])
  (refine opsV_op_k rfl (by rfl) (fun B hn => opsH hn hgl (by first | rfl | kernel_rfl)) ?_; intro τ p K hK; go_simp; refine hK _ _ ?_; clear hK K p τ; (try walk_nrm))
  (refine opsV_op_k rfl (by rfl) (fun B hn => opsH hn hgl (by first | rfl | kernel_rfl)) ?_; intro τ p K hK; go_simp; refine hK _ _ ?_; clear hK K p τ; (try walk_nrm))
  (refine opsV_unwanted rfl (by rfl) ?_; (try walk_nrm))
  (refine opsV_unwanted rfl (by rfl) ?_; (try walk_nrm))
  (refine opsV_unwanted rfl (by rfl) ?_; (try walk_nrm))
  (refine opsV_op_k rfl (by rfl) (fun B hn => opsH hn hgl (by first | rfl | kernel_rfl)) ?_; intro τ p K hK; go_simp; refine hK _ _ ?_; clear hK K p τ; (try walk_nrm))
  (refine opsV_nil ?_; (try dsimp only [thenV_normal, inBV_normal]))
  (refine wpV_cond_f rfl ?_)
  (refine wpV_skip ?_; (try dsimp only [thenV_normal, inBV_normal]))
  (refine wpV_seq ?_)
  (refine wpV_region ?_; simp only [List.size_toArray, List.length_cons, List.length_nil, Nat.reduceAdd, Nat.zero_add, List.range, List.range.loop])
  (refine opsV_op_k rfl (by rfl) (fun B hn => opsH hn hgl (by first | rfl | kernel_rfl)) ?_; intro τ p K hK; go_simp; refine hK _ _ ?_; clear hK K p τ; (try walk_nrm))
  (refine opsV_nil ?_; (try dsimp only [thenV_normal, inBV_normal]))
  (refine wpV_block ?_)
  (refine wpV_seq ?_)
  (refine wpV_region ?_; simp only [List.size_toArray, List.length_cons, List.length_nil, Nat.reduceAdd, Nat.zero_add, List.range, List.range.loop])
  (refine opsV_pureS (x := .tuple #[.nilIface, .bool false]) (es := #[]) rfl (by rfl) (exec_ta rfl (by rfl)) (fun w => (ta_val (ta55u _ w))) (by rfl) (pf_tf) ?_; (try walk_nrm))
  (refine opsV_op_k rfl (by rfl) (fun B hn => opsH hn hgl (by first | rfl | kernel_rfl)) ?_; intro τ p K hK; go_simp; refine hK _ _ ?_; clear hK K p τ; (try walk_nrm))
  (refine opsV_op_k rfl (by rfl) (fun B hn => opsH hn hgl (by first | rfl | kernel_rfl)) ?_; intro τ p K hK; go_simp; refine hK _ _ ?_; clear hK K p τ; (try walk_nrm))
  (refine opsV_nil ?_; (try dsimp only [thenV_normal, inBV_normal]))
  (refine wpV_cond_f rfl ?_)
  (refine wpV_seq ?_)
  (refine wpV_region ?_; simp only [List.size_toArray, List.length_cons, List.length_nil, Nat.reduceAdd, Nat.zero_add, List.range, List.range.loop])
  (refine opsV_pureS (x := .tuple #[.nilIface, .bool false]) (es := #[]) rfl (by rfl) (exec_ta rfl (by rfl)) (fun w => (ta_val (ta55v _ w))) (by rfl) (pf_tf) ?_; (try walk_nrm))
  (refine opsV_op_k rfl (by rfl) (fun B hn => opsH hn hgl (by first | rfl | kernel_rfl)) ?_; intro τ p K hK; go_simp; refine hK _ _ ?_; clear hK K p τ; (try walk_nrm))
  (refine opsV_op_k rfl (by rfl) (fun B hn => opsH hn hgl (by first | rfl | kernel_rfl)) ?_; intro τ p K hK; go_simp; refine hK _ _ ?_; clear hK K p τ; (try walk_nrm))
  (refine opsV_nil ?_; (try dsimp only [thenV_normal, inBV_normal]))
  (refine wpV_cond_f rfl ?_)
  (refine wpV_seq ?_)
  (refine wpV_region ?_; simp only [List.size_toArray, List.length_cons, List.length_nil, Nat.reduceAdd, Nat.zero_add, List.range, List.range.loop])
  (refine opsV_op_k rfl (by rfl) (fun B hn => opsH hn hgl (by first | rfl | kernel_rfl)) ?_; intro τ p K hK; go_simp; refine hK _ _ ?_; clear hK K p τ; (try walk_nrm))
  (refine opsV_nil ?_; (try dsimp only [thenV_normal, inBV_normal]))
  (refine wpV_seq ?_)
  (refine wpV_region ?_; simp only [List.size_toArray, List.length_cons, List.length_nil, Nat.reduceAdd, Nat.zero_add, List.range, List.range.loop])
  (refine opsV_op_k rfl (by rfl) (fun B hn => opsH hn hgl (by first | rfl | kernel_rfl)) ?_; intro τ p K hK; go_simp; refine hK _ _ ?_; clear hK K p τ; (try walk_nrm))
  (refine opsV_nil ?_; (try dsimp only [thenV_normal, inBV_normal]))
  (refine wpV_ret ?_; (try dsimp only [thenV_ret, inBV_ret]))
  exact ⟨.inr rfl, rfl, _, resultsC_tmp (by rfl) _, rfl, rfl, HBL.out⟩
set_option maxRecDepth 100000 in
set_option maxHeartbeats 8000000 in
theorem is_hit (hgl : ∀ g, glH g = true → Gd g) (g : Nat) (hg : Gd g) (hc : v.cell? ⟨g, 4, none⟩ = some refV) :
    CallsV Vh Tryz.prog Gd 25 #[.iface 36 (.pointer (some ⟨g, 0, none⟩)), refV, .bool true] F v fun F' z v' => F' = F ∧ z = .bool true ∧ v' = v := by
  refine callsV_body Tryz.func25 (by rfl) (by kernel_rfl) ?_
  simp only [Tryz.ntmps25]
  (simp only [List.size_toArray, List.length_cons, List.length_nil, Nat.reduceAdd, Nat.reduceSub, Array.replicate_succ, Array.replicate_zero, List.push_toArray, List.append_toArray, List.nil_append, List.cons_append])
  have hun := unwrap_callsV (Gd := Gd) (F := F) (v := v) hgl g hc
  clear hc
  (have tpc := tpC; have tpf := tpF; have tpa := tpA; have tps := tpS; have tph := tpH)
  (refine wpV_seq ?_)
  (refine wpV_region ?_; simp only [List.size_toArray, List.length_cons, List.length_nil, Nat.reduceAdd, Nat.zero_add, List.range, List.range.loop])
  (refine opsV_op_k rfl (by rfl) (fun B hn => opsH hn hgl (by first | rfl | kernel_rfl)) ?_; intro τ p K hK; go_simp; refine hK _ _ ?_; clear hK K p τ; (try walk_nrm))
  (refine opsV_nil ?_; (try dsimp only [thenV_normal, inBV_normal]))
  (refine wpV_block ?_)
  refine wpV_loop_rounds 2 ?_
  unfold RoundsV
  (refine wpV_block ?_)
  (refine wpV_seq ?_)
  (refine wpV_seq ?_)
  (refine wpV_region ?_; simp only [List.size_toArray, List.length_cons, List.length_nil, Nat.reduceAdd, Nat.zero_add, List.range, List.range.loop])
  (refine opsV_op_k rfl (by rfl) (fun B hn => opsH hn hgl (by first | rfl | kernel_rfl)) ?_; intro τ p K hK; go_simp; refine hK _ _ ?_; clear hK K p τ; (try walk_nrm))
  (refine opsV_op_k rfl (by rfl) (fun B hn => opsH hn hgl (by first | rfl | kernel_rfl)) ?_; intro τ p K hK; go_simp; refine hK _ _ ?_; clear hK K p τ; (try walk_nrm))
  (refine opsV_op_k rfl (by rfl) (fun B hn => opsH hn hgl (by first | rfl | kernel_rfl)) ?_; intro τ p K hK; go_simp; refine hK _ _ ?_; clear hK K p τ; (try walk_nrm))
  (refine opsV_op_k rfl (by rfl) (fun B hn => opsH hn hgl (by first | rfl | kernel_rfl)) ?_; intro τ p K hK; go_simp; refine hK _ _ ?_; clear hK K p τ; (try walk_nrm))
  (refine opsV_pureS (x := .bool false) (es := #[]) rfl (by rfl) (exec_bin rfl (by rfl) (by rfl)) (fun w => by kernel_rfl) (by rfl) (.inr (.bool _)) ?_; (try walk_nrm))
  (refine opsV_op_k rfl (by rfl) (fun B hn => opsH hn hgl (by first | rfl | kernel_rfl)) ?_; intro τ p K hK; go_simp; refine hK _ _ ?_; clear hK K p τ; (try walk_nrm))
  (refine opsV_nil ?_; (try dsimp only [thenV_normal, inBV_normal]))
  (refine wpV_cond_f rfl ?_)
  (refine wpV_skip ?_; (try dsimp only [thenV_normal, inBV_normal]))
  (refine wpV_seq ?_)
  (refine wpV_seq ?_)
  (refine wpV_region ?_; simp only [List.size_toArray, List.length_cons, List.length_nil, Nat.reduceAdd, Nat.zero_add, List.range, List.range.loop])
  (refine opsV_op_k rfl (by rfl) (fun B hn => opsH hn hgl (by first | rfl | kernel_rfl)) ?_; intro τ p K hK; go_simp; refine hK _ _ ?_; clear hK K p τ; (try walk_nrm))
  (refine opsV_pureS (x := .tuple #[.nilIface, .bool false]) (es := #[]) rfl (by rfl) (exec_ta rfl (by rfl)) (fun w => (ta_val (ta36i _ w))) (by rfl) (pf_tf) ?_; (try walk_nrm))
  (refine opsV_op_k rfl (by rfl) (fun B hn => opsH hn hgl (by first | rfl | kernel_rfl)) ?_; intro τ p K hK; go_simp; refine hK _ _ ?_; clear hK K p τ; (try walk_nrm))
  (refine opsV_op_k rfl (by rfl) (fun B hn => opsH hn hgl (by first | rfl | kernel_rfl)) ?_; intro τ p K hK; go_simp; refine hK _ _ ?_; clear hK K p τ; (try walk_nrm))
  (refine opsV_op_k rfl (by rfl) (fun B hn => opsH hn hgl (by first | rfl | kernel_rfl)) ?_; intro τ p K hK; go_simp; refine hK _ _ ?_; clear hK K p τ; (try walk_nrm))
  (refine opsV_op_k rfl (by rfl) (fun B hn => opsH hn hgl (by first | rfl | kernel_rfl)) ?_; intro τ p K hK; go_simp; refine hK _ _ ?_; clear hK K p τ; (try walk_nrm))
  (refine opsV_op_k rfl (by rfl) (fun B hn => opsH hn hgl (by first | rfl | kernel_rfl)) ?_; intro τ p K hK; go_simp; refine hK _ _ ?_; clear hK K p τ; (try walk_nrm))
  (refine opsV_nil ?_; (try dsimp only [thenV_normal, inBV_normal]))
  (refine wpV_seq ?_)
  (refine wpV_region ?_; simp only [List.size_toArray, List.length_cons, List.length_nil, Nat.reduceAdd, Nat.zero_add, List.range, List.range.loop])
  (refine opsV_op_k rfl (by rfl) (fun B hn => opsH hn hgl (by first | rfl | kernel_rfl)) ?_; intro τ p K hK; go_simp; refine hK _ _ ?_; clear hK K p τ; (try walk_nrm))
  (refine opsV_op_k rfl (by rfl) (fun B hn => opsH hn hgl (by first | rfl | kernel_rfl)) ?_; intro τ p K hK; go_simp; refine hK _ _ ?_; clear hK K p τ; (try walk_nrm))
  (refine opsV_unwanted rfl (by rfl) ?_; (try walk_nrm))
  (refine opsV_unwanted rfl (by rfl) ?_; (try walk_nrm))
  (refine opsV_unwanted rfl (by rfl) ?_; (try walk_nrm))
  (refine opsV_op_k rfl (by rfl) (fun B hn => opsH hn hgl (by first | rfl | kernel_rfl)) ?_; intro τ p K hK; go_simp; refine hK _ _ ?_; clear hK K p τ; (try walk_nrm))
  (refine opsV_nil ?_; (try dsimp only [thenV_normal, inBV_normal]))
  (refine wpV_cond_f rfl ?_)
  (refine wpV_skip ?_; (try dsimp only [thenV_normal, inBV_normal]))
  (refine wpV_seq ?_)
  (refine wpV_region ?_; simp only [List.size_toArray, List.length_cons, List.length_nil, Nat.reduceAdd, Nat.zero_add, List.range, List.range.loop])
  (refine opsV_op_k rfl (by rfl) (fun B hn => opsH hn hgl (by first | rfl | kernel_rfl)) ?_; intro τ p K hK; go_simp; refine hK _ _ ?_; clear hK K p τ; (try walk_nrm))
  (refine opsV_nil ?_; (try dsimp only [thenV_normal, inBV_normal]))
  (refine wpV_block ?_)
  (refine wpV_seq ?_)
  (refine wpV_region ?_; simp only [List.size_toArray, List.length_cons, List.length_nil, Nat.reduceAdd, Nat.zero_add, List.range, List.range.loop])
  (refine opsV_pureS (x := .tuple #[.iface 36 (.pointer (some ⟨g, 0, none⟩)), .bool true]) (es := #[]) rfl (by rfl) (exec_ta rfl (by rfl)) (fun w => (ta_val (ta36u _ w))) (by rfl) (pf_tt hg) ?_; (try walk_nrm))
  (refine opsV_op_k rfl (by rfl) (fun B hn => opsH hn hgl (by first | rfl | kernel_rfl)) ?_; intro τ p K hK; go_simp; refine hK _ _ ?_; clear hK K p τ; (try walk_nrm))
  (refine opsV_op_k rfl (by rfl) (fun B hn => opsH hn hgl (by first | rfl | kernel_rfl)) ?_; intro τ p K hK; go_simp; refine hK _ _ ?_; clear hK K p τ; (try walk_nrm))
  (refine opsV_nil ?_; (try dsimp only [thenV_normal, inBV_normal]))
  (refine wpV_cond_t rfl ?_)
  (refine wpV_seq ?_)
  (refine wpV_region ?_; simp only [List.size_toArray, List.length_cons, List.length_nil, Nat.reduceAdd, Nat.zero_add, List.range, List.range.loop])
  (refine opsV_op_k rfl (by rfl) (fun B hn => opsH hn hgl (by first | rfl | kernel_rfl)) ?_; intro τ p K hK; go_simp; refine hK _ _ ?_; clear hK K p τ; (try walk_nrm))
  (refine opsV_nil ?_; (try dsimp only [thenV_normal, inBV_normal]))
  (refine wpV_seq ?_)
  (refine wpV_region ?_; simp only [List.size_toArray, List.length_cons, List.length_nil, Nat.reduceAdd, Nat.zero_add, List.range, List.range.loop])
  (refine opsV_op_k rfl (by rfl) (fun B hn => opsH hn hgl (by first | rfl | kernel_rfl)) ?_; intro τ p K hK; go_simp; refine hK _ _ ?_; clear hK K p τ; (try walk_nrm))
  refine opsV_enterS (R := ?R) rfl (by rfl) (exec_inv rfl (by rfl) (by walk_nrm <;> rfl)) (fun w => un36 ⟨g, 0, none⟩ w) ?ha ?hc ?hn
  case hc => exact hun
  case ha => exact fun x hx => by (simp only [List.mem_toArray, List.mem_singleton] at hx; subst hx; exact .inr (.ptr hg))
  rintro F2 z v2 ⟨rfl, rfl, rfl⟩
  walk_nrm
  (refine opsV_op_k rfl (by rfl) (fun B hn => opsH hn hgl (by first | rfl | kernel_rfl)) ?_; intro τ p K hK; go_simp; refine hK _ _ ?_; clear hK K p τ; (try walk_nrm))
  (refine opsV_nil ?_; (try dsimp only [thenV_normal, inBV_normal]))
  (refine wpV_seq ?_)
  (refine wpV_region ?_; simp only [List.size_toArray, List.length_cons, List.length_nil, Nat.reduceAdd, Nat.zero_add, List.range, List.range.loop])
  (refine opsV_op_k rfl (by rfl) (fun B hn => opsH hn hgl (by first | rfl | kernel_rfl)) ?_; intro τ p K hK; go_simp; refine hK _ _ ?_; clear hK K p τ; (try walk_nrm))
  (refine opsV_pureS (x := .bool false) (es := #[]) rfl (by rfl) (exec_bin rfl (by rfl) (by rfl)) (fun w => by kernel_rfl) (by rfl) (.inr (.bool _)) ?_; (try walk_nrm))
  (refine opsV_nil ?_; (try dsimp only [thenV_normal, inBV_normal]))
  (refine wpV_cond_f rfl ?_)
  (refine wpV_skip ?_; (try dsimp only [thenV_normal, inBV_normal]))
  unfold RoundsV
  (refine wpV_block ?_)
  (refine wpV_seq ?_)
  (refine wpV_seq ?_)
  (refine wpV_region ?_; simp only [List.size_toArray, List.length_cons, List.length_nil, Nat.reduceAdd, Nat.zero_add, List.range, List.range.loop])
  (refine opsV_op_k rfl (by rfl) (fun B hn => opsH hn hgl (by first | rfl | kernel_rfl)) ?_; intro τ p K hK; go_simp; refine hK _ _ ?_; clear hK K p τ; (try walk_nrm))
  (refine opsV_op_k rfl (by rfl) (fun B hn => opsH hn hgl (by first | rfl | kernel_rfl)) ?_; intro τ p K hK; go_simp; refine hK _ _ ?_; clear hK K p τ; (try walk_nrm))
  (refine opsV_op_k rfl (by rfl) (fun B hn => opsH hn hgl (by first | rfl | kernel_rfl)) ?_; intro τ p K hK; go_simp; refine hK _ _ ?_; clear hK K p τ; (try walk_nrm))
  (refine opsV_op_k rfl (by rfl) (fun B hn => opsH hn hgl (by first | rfl | kernel_rfl)) ?_; intro τ p K hK; go_simp; refine hK _ _ ?_; clear hK K p τ; (try walk_nrm))
  (refine opsV_pureS (x := .bool true) (es := #[]) rfl (by rfl) (exec_bin rfl (by rfl) (by rfl)) (fun w => by kernel_rfl) (by rfl) (.inr (.bool _)) ?_; (try walk_nrm))
  (refine opsV_op_k rfl (by rfl) (fun B hn => opsH hn hgl (by first | rfl | kernel_rfl)) ?_; intro τ p K hK; go_simp; refine hK _ _ ?_; clear hK K p τ; (try walk_nrm))
  (refine opsV_nil ?_; (try dsimp only [thenV_normal, inBV_normal]))
  (refine wpV_cond_t rfl ?_)
  (refine wpV_seq ?_)
  (refine wpV_region ?_; simp only [List.size_toArray, List.length_cons, List.length_nil, Nat.reduceAdd, Nat.zero_add, List.range, List.range.loop])
  (refine opsV_op_k rfl (by rfl) (fun B hn => opsH hn hgl (by first | rfl | kernel_rfl)) ?_; intro τ p K hK; go_simp; refine hK _ _ ?_; clear hK K p τ; (try walk_nrm))
  (refine opsV_nil ?_; (try dsimp only [thenV_normal, inBV_normal]))
  (refine wpV_ret ?_; (try dsimp only [thenV_ret, inBV_ret]))
  exact ⟨.inr rfl, rfl, _, resultsC_tmp (by rfl) _, rfl, rfl, rfl⟩
set_option maxRecDepth 100000 in
set_option maxHeartbeats 8000000 in
theorem Is_hit (hgl : ∀ g, glH g = true → Gd g) (h6 : Gd 6) (g : Nat) (hg : Gd g) (hc : v.cell? ⟨g, 4, none⟩ = some refV) :
    CallsV Vh Tryz.prog Gd 13 #[.iface 36 (.pointer (some ⟨g, 0, none⟩)), refV] F v fun F' z v' => F' = F ∧ z = .bool true ∧ v' = v := by
  refine callsV_body Tryz.func13 (by rfl) (by kernel_rfl) ?_
  simp only [Tryz.ntmps13]
  (simp only [List.size_toArray, List.length_cons, List.length_nil, Nat.reduceAdd, Nat.reduceSub, Array.replicate_succ, Array.replicate_zero, List.push_toArray, List.append_toArray, List.nil_append, List.cons_append])
  have his := is_hit (Gd := Gd) (F := F) (v := v) hgl g hg hc
  clear hc
  (have tpc := tpC; have tpf := tpF; have tpa := tpA; have tps := tpS; have tph := tpH)
  (refine wpV_seq ?_)
  (refine wpV_region ?_; simp only [List.size_toArray, List.length_cons, List.length_nil, Nat.reduceAdd, Nat.zero_add, List.range, List.range.loop])
  (refine opsV_op_k rfl (by rfl) (fun B hn => opsH hn hgl (by first | rfl | kernel_rfl)) ?_; intro τ p K hK; go_simp; refine hK _ _ ?_; clear hK K p τ; (try walk_nrm))
  (refine opsV_nil ?_; (try dsimp only [thenV_normal, inBV_normal]))
  (refine wpV_seq ?_)
  (refine wpV_seq ?_)
  (refine wpV_region ?_; simp only [List.size_toArray, List.length_cons, List.length_nil, Nat.reduceAdd, Nat.zero_add, List.range, List.range.loop])
  (refine opsV_op_k rfl (by rfl) (fun B hn => opsH hn hgl (by first | rfl | kernel_rfl)) ?_; intro τ p K hK; go_simp; refine hK _ _ ?_; clear hK K p τ; (try walk_nrm))
  (refine opsV_pureS (x := .bool false) (es := #[]) rfl (by rfl) (exec_bin rfl (by rfl) (by rfl)) (fun w => by kernel_rfl) (by rfl) (.inr (.bool _)) ?_; (try walk_nrm))
  (refine opsV_op_k rfl (by rfl) (fun B hn => opsH hn hgl (by first | rfl | kernel_rfl)) ?_; intro τ p K hK; go_simp; refine hK _ _ ?_; clear hK K p τ; (try walk_nrm))
  (refine opsV_op_k rfl (by rfl) (fun B hn => opsH hn hgl (by first | rfl | kernel_rfl)) ?_; intro τ p K hK; go_simp; refine hK _ _ ?_; clear hK K p τ; (try walk_nrm))
  (refine opsV_pureS (x := .bool false) (es := #[]) rfl (by rfl) (exec_bin rfl (by rfl) (by rfl)) (fun w => by kernel_rfl) (by rfl) (.inr (.bool _)) ?_; (try walk_nrm))
  (refine opsV_op_k rfl (by rfl) (fun B hn => opsH hn hgl (by first | rfl | kernel_rfl)) ?_; intro τ p K hK; go_simp; refine hK _ _ ?_; clear hK K p τ; (try walk_nrm))
  (refine opsV_nil ?_; (try dsimp only [thenV_normal, inBV_normal]))
  (refine wpV_cond_f rfl ?_)
  (refine wpV_skip ?_; (try dsimp only [thenV_normal, inBV_normal]))
  (refine wpV_seq ?_)
  (refine wpV_region ?_; simp only [List.size_toArray, List.length_cons, List.length_nil, Nat.reduceAdd, Nat.zero_add, List.range, List.range.loop])
  (refine opsV_op_k rfl (by rfl) (fun B hn => opsH hn hgl (by first | rfl | kernel_rfl)) ?_; intro τ p K hK; go_simp; refine hK _ _ ?_; clear hK K p τ; (try walk_nrm))
  (refine opsV_pureS rfl (by rfl) (exec_call rfl (by walk_nrm <;> rfl)) (fun w => (to55 (.agg #[]) w)) (by rfl) (pf_rty h6 _) ?_; (try walk_nrm))
  (refine opsV_pureS rfl (by rfl) (exec_inv rfl (by rfl) (by walk_nrm <;> rfl)) (fun w => (cp55 w)) (by rfl) (.inr (.bool _)) ?_; (try walk_nrm))
  (refine opsV_op_k rfl (by rfl) (fun B hn => opsH hn hgl (by first | rfl | kernel_rfl)) ?_; intro τ p K hK; go_simp; refine hK _ _ ?_; clear hK K p τ; (try walk_nrm))
  (refine opsV_nil ?_; (try dsimp only [thenV_normal, inBV_normal]))
  (refine wpV_seq ?_)
  (refine wpV_region ?_; simp only [List.size_toArray, List.length_cons, List.length_nil, Nat.reduceAdd, Nat.zero_add, List.range, List.range.loop])
  (refine opsV_op_k rfl (by rfl) (fun B hn => opsH hn hgl (by first | rfl | kernel_rfl)) ?_; intro τ p K hK; go_simp; refine hK _ _ ?_; clear hK K p τ; (try walk_nrm))
  (refine opsV_op_k rfl (by rfl) (fun B hn => opsH hn hgl (by first | rfl | kernel_rfl)) ?_; intro τ p K hK; go_simp; refine hK _ _ ?_; clear hK K p τ; (try walk_nrm))
  (refine opsV_op_k rfl (by rfl) (fun B hn => opsH hn hgl (by first | rfl | kernel_rfl)) ?_; intro τ p K hK; go_simp; refine hK _ _ ?_; clear hK K p τ; (try walk_nrm))
  (refine opsV_enter (R := ?R271) rfl (by rfl) (run_callV rfl rfl Tryz.func25 (by kernel_rfl) rfl) (pf_call hgl (by rfl)) ?hc271 ?hn271; case hc271 => (walk_nrm; exact his))
  rintro F2 z v2 ⟨rfl, rfl, rfl⟩
  walk_nrm
  (refine opsV_op_k rfl (by rfl) (fun B hn => opsH hn hgl (by first | rfl | kernel_rfl)) ?_; intro τ p K hK; go_simp; refine hK _ _ ?_; clear hK K p τ; (try walk_nrm))
  (refine opsV_nil ?_; (try dsimp only [thenV_normal, inBV_normal]))
  (refine wpV_ret ?_; (try dsimp only [thenV_ret, inBV_ret]))
  exact ⟨.inr rfl, rfl, _, resultsC_tmp (by rfl) _, rfl, rfl, rfl⟩
end
end Go.Proofs.YtmmjlngbiilagaaGreatDoor

/-
  GOROUTINE 0's WALK: the text of a rejected message.
-/
namespace Go.Proofs.YtmmjlngbiilagaaGreatDoor
open Go Go.Conc Go.Shelf Go.RowKit Go.Lib

noncomputable def bodyRE : Code := Tryz.f14.body.getD .skip
noncomputable def ops3R : Array Oper := match bodyRE with | .seq _ (.seq _ (.seq (.region _ ops _) _)) => ops | _ => #[]
/-- What each operation yields. -/
def ValR (g : Nat) (x : M4) (i : Nat) (z : Value) : Prop :=
  match i with
  | 0 | 1 | 2 | 8 | 9 | 10 | 15 | 16 => z = .pointer (some ⟨g, 0, none⟩)
  | 3 => z = .pointer (some ⟨g, 2, none⟩)
  | 4 => z = .int .i64 x.s
  | 11 => z = .pointer (some ⟨g, 1, none⟩)
  | 12 => z = .string x.m
  | 17 => z = .pointer (some ⟨g, 4, none⟩)
  | 18 => z = refV
  | 5 | 19 => ∃ s : ByteArray, z = .string s ∧ s.size ≤ 24
  | _ => ∃ s : ByteArray, z = .string s ∧ s.size ≤ i * 2000 ∧ 0 < s.size
/-- The rejected message, as it lies. -/
structure RejAt (g : Nat) (x : M4) (v : World) : Prop where
  c0 : v.cell? ⟨g, 0, none⟩ = some (.int .i64 x.t)
  c1 : v.cell? ⟨g, 1, none⟩ = some (.string x.m)
  c2 : v.cell? ⟨g, 2, none⟩ = some (.int .i64 x.s)
  c3 : v.cell? ⟨g, 3, none⟩ = some (.string x.p)
  c4 : v.cell? ⟨g, 4, none⟩ = some refV
theorem RejAt.bl {g : Nat} {x : M4} {v w : World} (h : RejAt g x v) (hb : Bl v.heap.size v w) : RejAt g x w := by
  have hl : g < v.heap.size := World.block_lt_of_cell? v ⟨g, 0, none⟩ h.c0
  exact ⟨(hb.cell (p := ⟨g, _, none⟩) hl).trans h.c0, (hb.cell (p := ⟨g, _, none⟩) hl).trans h.c1, (hb.cell (p := ⟨g, _, none⟩) hl).trans h.c2, (hb.cell (p := ⟨g, _, none⟩) hl).trans h.c3, (hb.cell (p := ⟨g, _, none⟩) hl).trans h.c4⟩
section
variable {ops : Array Oper} {a0 a : Act} {Y : Nat → Value → World → Prop} {S : (Nat → Bool) → World → Prop} {L : Nat → Bool} {v : World}
theorem RJ.old' (h : RJ ops a0 Y S L a v) {s : Tmp} (hs : (ops.toList.all fun o => o.dst != some s) = true) : a.tmps[s]? = a0.tmps[s]? := h.other s fun j o ho _ e => by
  have := List.all_eq_true.1 hs o (by simpa using Array.mem_iff_getElem?.2 ⟨j, ho⟩)
  simp [e] at this
theorem RJ.val' (h : RJ ops a0 Y S L a v) {j : Nat} {s : Tmp} (hs : (ops[j]?).bind (fun o => o.dst) = some s) (hL : L j = true) : Y j (a.tmps.getD s undef) v := by
  obtain ⟨o, ho, hd⟩ := Option.bind_eq_some_iff.1 hs
  exact h.done j o s ho hL hd
end
section
variable {Gd : GB} {F : Nat → Prop} {v0 : World}
set_option maxRecDepth 100000 in
set_option maxHeartbeats 4000000 in
theorem refErr_callsV {v : World} (hgl : ∀ g, glH g = true → Gd g) :
    CallsV Vh Tryz.prog Gd 130 #[.agg #[]] F v fun F' z v' => F' = F ∧ (∃ s : ByteArray, z = .string s ∧ s.size ≤ 24) ∧ Bl v.heap.size v v' := by
  refine callsV_body Tryz.func130 (by rfl) (by kernel_rfl) ?_
  simp only [Tryz.ntmps130]
  (simp only [List.size_toArray, List.length_cons, List.length_nil, Nat.reduceAdd, Nat.reduceSub, Array.replicate_succ, Array.replicate_zero, List.push_toArray, List.append_toArray, List.nil_append, List.cons_append])
  (have tpc := tpC; have tpf := tpF; have tpa := tpA; have tps := tpS; have tph := tpH)
  (refine wpV_seq ?_)
  (refine wpV_region ?_; simp only [List.size_toArray, List.length_cons, List.length_nil, Nat.reduceAdd, Nat.zero_add, List.range, List.range.loop])
  (refine opsV_op_k rfl (by rfl) (fun B hn => opsH hn hgl (by first | rfl | kernel_rfl)) ?_; intro τ p K hK; go_simp; refine hK _ _ ?_; clear hK K p τ; (try walk_nrm))
  (refine opsV_op_k rfl (by rfl) (fun B hn => opsH hn hgl (by first | rfl | kernel_rfl)) ?_; intro τ p K hK; go_simp; refine hK _ _ ?_; clear hK K p τ; (try walk_nrm))
  (refine opsV_nil ?_; (try dsimp only [thenV_normal, inBV_normal]))
  (refine wpV_seq ?_)
  (refine wpV_region ?_; simp only [List.size_toArray, List.length_cons, List.length_nil, Nat.reduceAdd, Nat.zero_add, List.range, List.range.loop])
  (refine opsV_op_k rfl (by rfl) (fun B hn => opsH hn hgl (by first | rfl | kernel_rfl)) ?_; intro τ p K hK; go_simp; refine hK _ _ ?_; clear hK K p τ; (try walk_nrm))
  (refine opsV_nil ?_; (try dsimp only [thenV_normal, inBV_normal]))
  (refine wpV_ret ?_; (try dsimp only [thenV_ret, inBV_ret]))
  exact ⟨.inr rfl, rfl, _, resultsC_tmp (by rfl) _, rfl, ⟨_, rfl, by decide⟩, (Bl.refl _ _).alloc (Nat.le_refl _) _⟩
abbrev UR (v0 : World) : (Nat → Bool) → World → Prop := fun _ w => Bl v0.heap.size v0 w
set_option maxRecDepth 100000 in
set_option maxHeartbeats 8000000 in
theorem rej_step (hgl : ∀ g, glH g = true → Gd g) (h6 : Gd 6) (g : Nat) (hg : Gd g) (x : M4) (u : Nat) (hxs : x.s = u) (hu : u ≤ 100000) (hxm : x.m.size ≤ 1000) (hR : RejAt g x v0) (htab : ∀ w, Bl v0.heap.size v0 w → Lib.TabIs Vh w "internal/strconv.uint64pow10" .u64 Lib.pow10Tab)
    (a0 : Act) (ha0 : a0.tmps[0]? = some (.pointer (some ⟨g, 0, none⟩))) :
    ∀ i o, ops3R[i]? = some o → ∀ L a v, L i = false → (∀ e ∈ o.after, Region.binds .any e = true → L e.on = true) → RJ ops3R a0 (fun i z _ => ValR g x i z) (UR v0) L a v →
      Op1V Vh Tryz.prog Gd 14 ops3R i (fun a' v' => ∃ z, a' = a.put o.dst z ∧ (o.dst ≠ none → ValR g x i z) ∧ UR v0 (updL L i) v' ∧ ∀ j u, L j = true → ValR g x j u → ValR g x j u) F a v := by
  intro i o ho L a v hL hdep hJ
  have f0 : a.tmps[0]?.getD undef = .pointer (some ⟨g, 0, none⟩) := by rw [hJ.old' (s := 0) (by kernel_rfl), ha0]; rfl
  have hlt : i < 22 := (Array.getElem?_eq_some_iff.1 ho).1
  have hS : Bl v0.heap.size v0 v := hJ.s
  have hr := hR.bl hS
  (have tpc := tpC; have tpf := tpF; have tpa := tpA; have tps := tpS; have tph := tpH)
  have ho2 := ho
  simp only [ops3R, bodyRE, Tryz.f14, Option.getD_some] at ho2
  obtain rfl | rfl | rfl | rfl | rfl | rfl | rfl | rfl | rfl | rfl | rfl | rfl | rfl | rfl | rfl | rfl | rfl | rfl | rfl | rfl | rfl | rfl : i = 0 ∨ i = 1 ∨ i = 2 ∨ i = 3 ∨ i = 4 ∨ i = 5 ∨ i = 6 ∨ i = 7 ∨ i = 8 ∨ i = 9 ∨ i = 10 ∨ i = 11 ∨ i = 12 ∨ i = 13 ∨ i = 14 ∨ i = 15 ∨ i = 16 ∨ i = 17 ∨ i = 18 ∨ i = 19 ∨ i = 20 ∨ i = 21 := by omega
  all_goals simp only [List.getElem?_toArray, List.getElem?_cons_succ, List.getElem?_cons_zero, Option.some.injEq] at ho2
  all_goals subst ho2
  -- STEPS
  · refine op1V_op ho (by rfl) (fun B hn => opsH hn hgl (by rfl)) (fun τ p => ?_)
    clear hJ hdep ho
    go_simp
    exact ⟨v, rfl, _, rfl, rfl, hS⟩
  · have h0 : a.tmps[12]?.getD undef = .pointer (some ⟨g, 0, none⟩) := by have := hJ.val' (j := 0) (s := 12) (by kernel_rfl) (hdep ⟨0, .data⟩ (by simp) rfl); simpa only [ValR, Array.getD_eq_getD_getElem?] using this
    refine op1V_op ho (by rfl) (fun B hn => opsH hn hgl (by rfl)) (fun τ p => ?_)
    clear hJ hdep ho
    go_simp
    exact ⟨v, rfl, _, rfl, rfl, hS⟩
  · have h1 : a.tmps[13]?.getD undef = .pointer (some ⟨g, 0, none⟩) := by have := hJ.val' (j := 1) (s := 13) (by kernel_rfl) (hdep ⟨1, .data⟩ (by simp) rfl); simpa only [ValR, Array.getD_eq_getD_getElem?] using this
    refine op1V_op ho (by rfl) (fun B hn => opsH hn hgl (by rfl)) (fun τ p => ?_)
    clear hJ hdep ho
    go_simp
    exact ⟨v, rfl, _, rfl, rfl, hS⟩
  · have h2 : a.tmps[14]?.getD undef = .pointer (some ⟨g, 0, none⟩) := by have := hJ.val' (j := 2) (s := 14) (by kernel_rfl) (hdep ⟨2, .data⟩ (by simp) rfl); simpa only [ValR, Array.getD_eq_getD_getElem?] using this
    refine op1V_op ho (by rfl) (fun B hn => opsH hn hgl (by rfl)) (fun τ p => ?_)
    clear hJ hdep ho
    go_simp
    exact ⟨v, rfl, _, rfl, rfl, hS⟩
  · have h3 : a.tmps[15]?.getD undef = .pointer (some ⟨g, 2, none⟩) := by have := hJ.val' (j := 3) (s := 15) (by kernel_rfl) (hdep ⟨3, .data⟩ (by simp) rfl); simpa only [ValR, Array.getD_eq_getD_getElem?] using this
    obtain ⟨c0, c1, c2, c3, c4⟩ := hr
    refine op1V_op ho (by rfl) (fun B hn => opsH hn hgl (by rfl)) (fun τ p => ?_)
    clear hJ hdep ho
    go_simp
    exact ⟨v, rfl, _, rfl, (show Value.int .i64 (u : Int) = .int .i64 x.s by rw [hxs]), hS⟩
  · have h4 : a.tmps[16]?.getD undef = .int .i64 x.s := by have := hJ.val' (j := 4) (s := 16) (by kernel_rfl) (hdep ⟨4, .data⟩ (by simp) rfl); simpa only [ValR, Array.getD_eq_getD_getElem?] using this
    refine op1V_enter (R := fun z v' => (∃ s : ByteArray, z = .string s ∧ s.size ≤ 24) ∧ Bl v.heap.size v v') ho (by rfl) (run_callV rfl rfl Tryz.func22 (by kernel_rfl) rfl) (pf_call hgl (by rfl)) ?_ fun z v' ⟨hz, hb⟩ => ⟨z, rfl, fun _ => hz, hS.trans (hb.mono hS.size), fun _ _ _ h => h⟩
    have e : ((#[] : Array Value) ++ (#[Operand.tmp 16] : Array Operand).map a.eval ++ #[]) = #[.int .i64 (u : Int)] := by simp [Act.eval, h4, hxs]
    rw [e]
    intro Post c cs hargs hK
    exact callsV_calls (fun B hn => pruneH hn hgl) Tryz.func22 (Vh.fn Tryz.func22 (by kernel_rfl)) rfl (R := fun z v' => (∃ s : ByteArray, z = .string s ∧ s.size ≤ 24) ∧ Bl v.heap.size v v') (fun τ p => (itoa_calls u hu (tp v τ p) (htab _ ⟨hS.os, hS.output, hS.size, hS.block⟩)).mono fun e w' ⟨s, h1, h2, h3⟩ => ⟨_, h1, ⟨s, rfl, h2⟩, Bl.untp h3⟩) Post c cs hargs hK
  · have h5 : ∃ s : ByteArray, a.tmps[17]?.getD undef = .string s ∧ s.size ≤ 24 := by have := hJ.val' (j := 5) (s := 17) (by kernel_rfl) (hdep ⟨5, .data⟩ (by simp) rfl); simpa only [ValR, Array.getD_eq_getD_getElem?] using this
    obtain ⟨s5, h5, b5⟩ := h5
    refine op1V_op ho (by rfl) (fun B hn => opsH hn hgl (by rfl)) (fun τ p => ?_)
    clear hJ hdep ho
    go_simp
    rw [if_neg (by omega)]
    refine ⟨v, rfl, _, rfl, ⟨_, rfl, ?_, ?_⟩, hS⟩
    · simp only [ByteArray.size_append, ba_size, List.size_toArray, List.length_cons, List.length_nil]; omega
    · simp only [ByteArray.size_append, ba_size, List.size_toArray, List.length_cons, List.length_nil]; omega
  · have h6 : ∃ s : ByteArray, a.tmps[18]?.getD undef = .string s ∧ s.size ≤ 6 * 2000 ∧ 0 < s.size := by have := hJ.val' (j := 6) (s := 18) (by kernel_rfl) (hdep ⟨6, .data⟩ (by simp) rfl); simpa only [ValR, Array.getD_eq_getD_getElem?] using this
    obtain ⟨s6, h6, b6, p6⟩ := h6
    refine op1V_op ho (by rfl) (fun B hn => opsH hn hgl (by rfl)) (fun τ p => ?_)
    clear hJ hdep ho
    go_simp
    rw [if_neg (by omega)]
    refine ⟨v, rfl, _, rfl, ⟨_, rfl, ?_, ?_⟩, hS⟩
    · simp only [ByteArray.size_append, ba_size, List.size_toArray, List.length_cons, List.length_nil]; omega
    · simp only [ByteArray.size_append, ba_size, List.size_toArray, List.length_cons, List.length_nil]; omega
  · refine op1V_op ho (by rfl) (fun B hn => opsH hn hgl (by rfl)) (fun τ p => ?_)
    clear hJ hdep ho
    go_simp
    exact ⟨v, rfl, _, rfl, rfl, hS⟩
  · have h8 : a.tmps[20]?.getD undef = .pointer (some ⟨g, 0, none⟩) := by have := hJ.val' (j := 8) (s := 20) (by kernel_rfl) (hdep ⟨8, .data⟩ (by simp) rfl); simpa only [ValR, Array.getD_eq_getD_getElem?] using this
    refine op1V_op ho (by rfl) (fun B hn => opsH hn hgl (by rfl)) (fun τ p => ?_)
    clear hJ hdep ho
    go_simp
    exact ⟨v, rfl, _, rfl, rfl, hS⟩
  · have h9 : a.tmps[21]?.getD undef = .pointer (some ⟨g, 0, none⟩) := by have := hJ.val' (j := 9) (s := 21) (by kernel_rfl) (hdep ⟨9, .data⟩ (by simp) rfl); simpa only [ValR, Array.getD_eq_getD_getElem?] using this
    refine op1V_op ho (by rfl) (fun B hn => opsH hn hgl (by rfl)) (fun τ p => ?_)
    clear hJ hdep ho
    go_simp
    exact ⟨v, rfl, _, rfl, rfl, hS⟩
  · have h10 : a.tmps[22]?.getD undef = .pointer (some ⟨g, 0, none⟩) := by have := hJ.val' (j := 10) (s := 22) (by kernel_rfl) (hdep ⟨10, .data⟩ (by simp) rfl); simpa only [ValR, Array.getD_eq_getD_getElem?] using this
    refine op1V_op ho (by rfl) (fun B hn => opsH hn hgl (by rfl)) (fun τ p => ?_)
    clear hJ hdep ho
    go_simp
    exact ⟨v, rfl, _, rfl, rfl, hS⟩
  · have h11 : a.tmps[23]?.getD undef = .pointer (some ⟨g, 1, none⟩) := by have := hJ.val' (j := 11) (s := 23) (by kernel_rfl) (hdep ⟨11, .data⟩ (by simp) rfl); simpa only [ValR, Array.getD_eq_getD_getElem?] using this
    obtain ⟨c0, c1, c2, c3, c4⟩ := hr
    refine op1V_op ho (by rfl) (fun B hn => opsH hn hgl (by rfl)) (fun τ p => ?_)
    clear hJ hdep ho
    go_simp
    exact ⟨v, rfl, _, rfl, rfl, hS⟩
  · have h7 : ∃ s : ByteArray, a.tmps[19]?.getD undef = .string s ∧ s.size ≤ 7 * 2000 ∧ 0 < s.size := by have := hJ.val' (j := 7) (s := 19) (by kernel_rfl) (hdep ⟨7, .data⟩ (by simp) rfl); simpa only [ValR, Array.getD_eq_getD_getElem?] using this
    obtain ⟨s7, h7, b7, p7⟩ := h7
    have h12 : a.tmps[24]?.getD undef = .string x.m := by have := hJ.val' (j := 12) (s := 24) (by kernel_rfl) (hdep ⟨12, .data⟩ (by simp) rfl); simpa only [ValR, Array.getD_eq_getD_getElem?] using this
    refine op1V_op ho (by rfl) (fun B hn => opsH hn hgl (by rfl)) (fun τ p => ?_)
    clear hJ hdep ho
    go_simp
    rw [if_neg (by omega)]
    refine ⟨v, rfl, _, rfl, ⟨_, rfl, ?_, ?_⟩, hS⟩
    · simp only [ByteArray.size_append, ba_size, List.size_toArray, List.length_cons, List.length_nil]; omega
    · simp only [ByteArray.size_append, ba_size, List.size_toArray, List.length_cons, List.length_nil]; omega
  · have h13 : ∃ s : ByteArray, a.tmps[25]?.getD undef = .string s ∧ s.size ≤ 13 * 2000 ∧ 0 < s.size := by have := hJ.val' (j := 13) (s := 25) (by kernel_rfl) (hdep ⟨13, .data⟩ (by simp) rfl); simpa only [ValR, Array.getD_eq_getD_getElem?] using this
    obtain ⟨s13, h13, b13, p13⟩ := h13
    refine op1V_op ho (by rfl) (fun B hn => opsH hn hgl (by rfl)) (fun τ p => ?_)
    clear hJ hdep ho
    go_simp
    rw [if_neg (by omega)]
    refine ⟨v, rfl, _, rfl, ⟨_, rfl, ?_, ?_⟩, hS⟩
    · simp only [ByteArray.size_append, ba_size, List.size_toArray, List.length_cons, List.length_nil]; omega
    · simp only [ByteArray.size_append, ba_size, List.size_toArray, List.length_cons, List.length_nil]; omega
  · refine op1V_op ho (by rfl) (fun B hn => opsH hn hgl (by rfl)) (fun τ p => ?_)
    clear hJ hdep ho
    go_simp
    exact ⟨v, rfl, _, rfl, rfl, hS⟩
  · have h15 : a.tmps[27]?.getD undef = .pointer (some ⟨g, 0, none⟩) := by have := hJ.val' (j := 15) (s := 27) (by kernel_rfl) (hdep ⟨15, .data⟩ (by simp) rfl); simpa only [ValR, Array.getD_eq_getD_getElem?] using this
    refine op1V_op ho (by rfl) (fun B hn => opsH hn hgl (by rfl)) (fun τ p => ?_)
    clear hJ hdep ho
    go_simp
    exact ⟨v, rfl, _, rfl, rfl, hS⟩
  · have h16 : a.tmps[28]?.getD undef = .pointer (some ⟨g, 0, none⟩) := by have := hJ.val' (j := 16) (s := 28) (by kernel_rfl) (hdep ⟨16, .data⟩ (by simp) rfl); simpa only [ValR, Array.getD_eq_getD_getElem?] using this
    refine op1V_op ho (by rfl) (fun B hn => opsH hn hgl (by rfl)) (fun τ p => ?_)
    clear hJ hdep ho
    go_simp
    exact ⟨v, rfl, _, rfl, rfl, hS⟩
  · have h17 : a.tmps[29]?.getD undef = .pointer (some ⟨g, 4, none⟩) := by have := hJ.val' (j := 17) (s := 29) (by kernel_rfl) (hdep ⟨17, .data⟩ (by simp) rfl); simpa only [ValR, Array.getD_eq_getD_getElem?] using this
    obtain ⟨c0, c1, c2, c3, c4⟩ := hr
    refine op1V_op ho (by rfl) (fun B hn => opsH hn hgl (by rfl)) (fun τ p => ?_)
    clear hJ hdep ho
    go_simp
    exact ⟨v, rfl, _, rfl, rfl, hS⟩
  · have h18 : a.tmps[30]?.getD undef = refV := by have := hJ.val' (j := 18) (s := 30) (by kernel_rfl) (hdep ⟨18, .data⟩ (by simp) rfl); simpa only [ValR, Array.getD_eq_getD_getElem?] using this
    have h18' : a.eval (.tmp 30) = refV := by simpa [Act.eval] using h18
    intro rest Q hK
    refine opsV_enterS (R := ?R) ho (by rfl) (exec_inv rfl h18' (by simp)) (fun w => er55 w) ?ha ?hc ?hn
    case hc => exact refErr_callsV hgl
    case ha => exact fun x hx => by (simp only [List.mem_toArray, List.mem_singleton] at hx; subst hx; exact .inr (.agg fun x hx => by simp at hx))
    rintro F2 z v' ⟨rfl, hz, hb⟩
    exact hK _ _ ⟨z, rfl, fun _ => hz, hS.trans (hb.mono hS.size), fun _ _ _ h => h⟩
  · have h14 : ∃ s : ByteArray, a.tmps[26]?.getD undef = .string s ∧ s.size ≤ 14 * 2000 ∧ 0 < s.size := by have := hJ.val' (j := 14) (s := 26) (by kernel_rfl) (hdep ⟨14, .data⟩ (by simp) rfl); simpa only [ValR, Array.getD_eq_getD_getElem?] using this
    obtain ⟨s14, h14, b14, p14⟩ := h14
    have h19 : ∃ s : ByteArray, a.tmps[31]?.getD undef = .string s ∧ s.size ≤ 24 := by have := hJ.val' (j := 19) (s := 31) (by kernel_rfl) (hdep ⟨19, .data⟩ (by simp) rfl); simpa only [ValR, Array.getD_eq_getD_getElem?] using this
    obtain ⟨s19, h19, b19⟩ := h19
    refine op1V_op ho (by rfl) (fun B hn => opsH hn hgl (by rfl)) (fun τ p => ?_)
    clear hJ hdep ho
    go_simp
    rw [if_neg (by omega)]
    refine ⟨v, rfl, _, rfl, ⟨_, rfl, ?_, ?_⟩, hS⟩
    · simp only [ByteArray.size_append, ba_size, List.size_toArray, List.length_cons, List.length_nil]; omega
    · simp only [ByteArray.size_append, ba_size, List.size_toArray, List.length_cons, List.length_nil]; omega
  · have h20 : ∃ s : ByteArray, a.tmps[32]?.getD undef = .string s ∧ s.size ≤ 20 * 2000 ∧ 0 < s.size := by have := hJ.val' (j := 20) (s := 32) (by kernel_rfl) (hdep ⟨20, .data⟩ (by simp) rfl); simpa only [ValR, Array.getD_eq_getD_getElem?] using this
    obtain ⟨s20, h20, b20, p20⟩ := h20
    refine op1V_op ho (by rfl) (fun B hn => opsH hn hgl (by rfl)) (fun τ p => ?_)
    clear hJ hdep ho
    go_simp
    exact ⟨v, rfl, _, rfl, ⟨_, rfl, by omega, by omega⟩, hS⟩
  -- END
set_option maxRecDepth 100000 in
set_option maxHeartbeats 8000000 in
theorem rejErr_callsV (hgl : ∀ g, glH g = true → Gd g) (h6 : Gd 6) (g : Nat) (hg : Gd g) (x : M4) (u : Nat) (hxs : x.s = u) (hu : u ≤ 100000) (hxm : x.m.size ≤ 1000) (hR : RejAt g x v0) (htab : ∀ w, Bl v0.heap.size v0 w → Lib.TabIs Vh w "internal/strconv.uint64pow10" .u64 Lib.pow10Tab) :
    CallsV Vh Tryz.prog Gd 14 #[.pointer (some ⟨g, 0, none⟩)] F v0 fun F' z v' => F' = F ∧ (∃ s : ByteArray, z = .string s ∧ 0 < s.size) ∧ Bl v0.heap.size v0 v' := by
  refine callsV_body Tryz.func14 (by rfl) (by kernel_rfl) ?_
  simp only [Tryz.ntmps14]
  (simp only [List.size_toArray, List.length_cons, List.length_nil, Nat.reduceAdd, Nat.reduceSub, Array.replicate_succ, Array.replicate_zero, List.push_toArray, List.append_toArray, List.nil_append, List.cons_append])
  have c4 := hR.c4
  (have tpc := tpC; have tpf := tpF; have tpa := tpA; have tps := tpS; have tph := tpH)
  (refine wpV_seq ?_)
  (refine wpV_region ?_; simp only [List.size_toArray, List.length_cons, List.length_nil, Nat.reduceAdd, Nat.zero_add, List.range, List.range.loop])
  (refine opsV_op_k rfl (by rfl) (fun B hn => opsH hn hgl (by first | rfl | kernel_rfl)) ?_; intro τ p K hK; go_simp; refine hK _ _ ?_; clear hK K p τ; (try walk_nrm))
  (refine opsV_nil ?_; (try dsimp only [thenV_normal, inBV_normal]))
  (refine wpV_seq ?_)
  (refine wpV_seq ?_)
  (refine wpV_region ?_; simp only [List.size_toArray, List.length_cons, List.length_nil, Nat.reduceAdd, Nat.zero_add, List.range, List.range.loop])
  (refine opsV_op_k rfl (by rfl) (fun B hn => opsH hn hgl (by first | rfl | kernel_rfl)) ?_; intro τ p K hK; go_simp; refine hK _ _ ?_; clear hK K p τ; (try walk_nrm))
  (refine opsV_pureS (x := .bool false) (es := #[]) rfl (by rfl) (exec_bin rfl (by rfl) (by rfl)) (fun w => by kernel_rfl) (by rfl) (.inr (.bool _)) ?_; (try walk_nrm))
  (refine opsV_op_k rfl (by rfl) (fun B hn => opsH hn hgl (by first | rfl | kernel_rfl)) ?_; intro τ p K hK; go_simp; refine hK _ _ ?_; clear hK K p τ; (try walk_nrm))
  (refine opsV_op_k rfl (by rfl) (fun B hn => opsH hn hgl (by first | rfl | kernel_rfl)) ?_; intro τ p K hK; go_simp; refine hK _ _ ?_; clear hK K p τ; (try walk_nrm))
  (refine opsV_op_k rfl (by rfl) (fun B hn => opsH hn hgl (by first | rfl | kernel_rfl)) ?_; intro τ p K hK; go_simp; refine hK _ _ ?_; clear hK K p τ; (try walk_nrm))
  (refine opsV_op_k rfl (by rfl) (fun B hn => opsH hn hgl (by first | rfl | kernel_rfl)) ?_; intro τ p K hK; go_simp; refine hK _ _ ?_; clear hK K p τ; (try walk_nrm))
  (refine opsV_op_k rfl (by rfl) (fun B hn => opsH hn hgl (by first | rfl | kernel_rfl)) ?_; intro τ p K hK; go_simp; refine hK _ _ ?_; clear hK K p τ; (try walk_nrm))
  (refine opsV_pureS (x := .bool false) (es := #[]) rfl (by rfl) (exec_bin rfl (by rfl) (by rfl)) (fun w => by kernel_rfl) (by rfl) (.inr (.bool _)) ?_; (try walk_nrm))
  (refine opsV_op_k rfl (by rfl) (fun B hn => opsH hn hgl (by first | rfl | kernel_rfl)) ?_; intro τ p K hK; go_simp; refine hK _ _ ?_; clear hK K p τ; (try walk_nrm))
  (refine opsV_nil ?_; (try dsimp only [thenV_normal, inBV_normal]))
  (refine wpV_cond_f rfl ?_)
  (refine wpV_skip ?_; (try dsimp only [thenV_normal, inBV_normal]))
  (refine wpV_seq ?_)
  have hst := fun a0 ha0 => rej_step (F := F) hgl h6 g hg x u hxs hu hxm hR htab a0 ha0
  refine wpV_any (ops := ops3R) (Y := fun i z _ => ValR g x i z) (S := UR v0) (by kernel_rfl) (by kernel_rfl) (by kernel_rfl) (by kernel_rfl) (Bl.refl _ _) (hst _ (by rfl)) (fun L a v hL hJ => ?_)
  dsimp only [thenV_normal]
  (refine wpV_ret ?_; (try dsimp only [thenV_ret, inBV_ret]))
  have hd := hJ.defers
  have h21 := hJ.val' (j := 21) (s := 2) (by kernel_rfl) (hL 21 (of_decide_eq_true (by kernel_rfl)))
  obtain ⟨s, h1, _, h2⟩ := h21
  exact ⟨.inr rfl, hd, _, resultsC_tmp (by rfl) _, rfl, ⟨s, h1, h2⟩, hJ.s⟩
end
end Go.Proofs.YtmmjlngbiilagaaGreatDoor
