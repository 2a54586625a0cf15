/-
  GOROUTINE 0's WALK: GatewayEach at streams that fit and are refused.
-/
import Derived.Test.YtmmjlngbiilagaaGreatDoorT26

namespace Go.Proofs.YtmmjlngbiilagaaGreatDoor
open Go Go.Conc Go.Shelf Go.RowKit Go.Lib Go.Sort

theorem run_mf (P : Program) (w : World) (f : FuncId) (first cap : Array Value) : (Instr.makeFunc (.func f) first cap).runT P w #[] = (.ok (.func (.func f) first cap) w, #[]) := by rfl
theorem exec_mf {a : Act} {o : Oper} {fn : Fn} {first cap : Array Operand} {fv cv : Array Value} (hop : o.op = .makeFunc fn first cap) (hf : first.map a.eval = fv) (hc : cap.map a.eval = cv) : execOp a.eval o = (Instr.makeFunc fn fv cv).bind fun z => .pure (.value z) := by
  subst hf hc
  unfold execOp
  simp only [hop]
  rfl
theorem fits_len {L : List Strm} (h : Fits L) : ∀ x ∈ L, x.ms.length ≤ 300 := fun x hx => by
  have h2 := h.2
  unfold tot at h2
  have : x.ms.length ≤ (L.map fun x => x.ms.length).sum := by
    clear h h2
    induction L with
    | nil => cases hx
    | cons y L ih =>
      rw [List.map_cons, List.sum_cons]
      rcases List.mem_cons.1 hx with rfl | hx
      · omega
      · have := ih hx; omega
  omega
section
variable {Gd : GB} {F : Nat → Prop} {v : World} {A : Option Addr} {n cap : Nat} {L : List Strm} {sb so kc : Nat}
theorem pf_take {gc : Nat} (h : Gd gc) : PFg Gd (takeV gc) :=
  .inr (.func _ (fun x hx => by
    simp only [List.mem_toArray, List.mem_singleton] at hx
    subst hx
    exact .ptr h) fun x hx => by simp at hx)
theorem firstE_in {P : Int → Prop} {f : Nat → Int} (h0 : P 0) (h : ∀ k, P (f k)) : ∀ n k, P (firstE f n k) := by
  intro n
  induction n with
  | zero => exact fun _ => h0
  | succ n ih =>
    intro k
    unfold firstE
    split
    · exact h k
    · exact ih _
theorem allE_nat (L : List Strm) : ∃ e : Nat, allE L = (e : Int) ∧ e ≤ 100000 := by
  have key : 0 ≤ allE L ∧ allE L ≤ 100 := by
    refine firstE_in (P := fun e => 0 ≤ e ∧ e ≤ 100) (by omega) (fun k => ?_) _ _
    have hm : ∀ mem last k x, 0 ≤ msgE mem last k x ∧ msgE mem last k x ≤ 100 := by
      intro mem last k x
      unfold msgE
      repeat' split
      all_goals omega
    have hr : ∀ mem ms k, 0 ≤ roundE mem ms k ∧ roundE mem ms k ≤ 100 := by
      intro mem ms k
      unfold roundE
      split
      · exact hm _ _ _ _
      · omega
    have hc : ∀ x, 0 ≤ chkE x ∧ chkE x ≤ 100 := by
      intro x
      unfold chkE
      split
      · exact firstE_in (P := fun e => 0 ≤ e ∧ e ≤ 100) (by omega) (fun k => hr _ _ k) _ _
      · omega
    show 0 ≤ roundA L k ∧ roundA L k ≤ 100
    unfold roundA
    split
    · split
      · exact hc _
      · split <;> omega
    · omega
  exact ⟨(allE L).toNat, by omega, by omega⟩
theorem Kept.pa {u u' : World} {t r : Nat} (h : Kept F v u) (ht : v.heap.size ≤ t) (hp : PA u t r u') : Kept F v u' :=
  ⟨hp.os.trans h.os, hp.output.trans h.output, Nat.le_trans h.size hp.size, fun b hl hf => (hp.keep b (Nat.lt_of_lt_of_le hl h.size) (by omega)).trans (h.block b hl hf)⟩
theorem st4_bl {u u' : World} (hb : Bl u.heap.size u u') {x : St4} (h : x.ok (fun b => b < u.heap.size) u) : x.ok (fun b => b < u'.heap.size) u' :=
  ⟨h.len, h.n63, h.a0, fun h0 => Nat.lt_of_lt_of_le (h.q h0) hb.size, fun j y hy => hb.range (World.block_lt_of_cell? u ⟨x.ba, j * 4 + 0, none⟩ (h.el j y hy 0 _ rfl)) (h.el j y hy)⟩
set_option maxRecDepth 100000 in
set_option maxHeartbeats 16000000 in
theorem ge_bad (h : GeIn Gd F A n L sb so kc v) (q : Nat) (hf : Fits L) (hE : allE L ≠ 0) : TopV Vh Tryz.prog Gd 3 #[.slice A n cap, .int .u8 q] F v (GeR F v) := by
  refine topV_body Tryz.func3 (by kernel_rfl) (by rfl) (by kernel_rfl) ?_
  simp only [Tryz.ntmps3]
  (simp only [List.size_toArray, List.length_cons, List.length_nil, Nat.reduceAdd, Nat.reduceSub, Array.replicate_succ, Array.replicate_zero, List.push_toArray, List.append_toArray, List.nil_append, List.cons_append])
  have hgl := h.gl
  have hown := own_go (F := F) (cap := cap) h.gl h.row h.len hf (fun x hx => Nat.le_trans (fits_len hf x hx) (by omega))
  obtain ⟨e, he, hle⟩ := allE_nat L
  obtain ⟨E, hEE⟩ : ∃ E, E = allE L := ⟨_, rfl⟩
  have hE1 : (E != 0) = true := by simpa [hEE] using hE
  obtain ⟨most, hmost⟩ : ∃ m, m = q % 20 := ⟨_, rfl⟩
  have hm20 : most < 20 := by omega
  have HMO := Lib.hid hmost
  have HH := Lib.hid h
  have HF := Lib.hid hf
  have HE := Lib.hid hE
  have HEE := Lib.hid hEE
  have Hee := Lib.hid (And.intro he hle)
  clear h hf hE hEE he hle hmost
  (have tpc := tpC; have tpf := tpF; have tpa := tpA; have tps := tpS; have tph := tpH)
  (refine wpV_seq ?_)
  (refine wpV_region ?_; simp only [List.size_toArray, List.length_cons, List.length_nil, Nat.reduceAdd, Nat.zero_add, List.range, List.range.loop])
  (refine opsV_op_k rfl (by rfl) (fun B hn => opsH hn hgl (by first | rfl | kernel_rfl)) ?_; intro τ p K hK; go_simp; refine hK _ _ ?_; clear hK K p τ; (try walk_nrm))
  (refine opsV_nil ?_; (try dsimp only [thenV_normal, inBV_normal]))
  (refine wpV_seq ?_)
  (refine wpV_region ?_; simp only [List.size_toArray, List.length_cons, List.length_nil, Nat.reduceAdd, Nat.zero_add, List.range, List.range.loop])
  (refine opsV_op_k rfl (by rfl) (fun B hn => opsH hn hgl (by first | rfl | kernel_rfl)) ?_; intro τ p K hK; go_simp; refine hK _ _ ?_; clear hK K p τ; (try walk_nrm))
  (refine opsV_enter (R := ?R10) rfl (by rfl) (run_callV rfl rfl Tryz.func4 (by kernel_rfl) rfl) (pf_call hgl (by rfl)) ?hc10 ?hn10; case hc10 => (walk_nrm; exact hown))
  rintro F1 z u1 ⟨rfl, val, rfl, hO, hb1⟩
  have hk1 : Kept F1 v u1 := Kept.refl'.bl hb1
  obtain ⟨sts, A', bst, capS, rfl, hmap, hA0, hst, hrow⟩ := own_sts hO (fits_len HF.out)
  have HMAP := Lib.hid hmap
  have HA0 := Lib.hid hA0
  have HST := Lib.hid hst
  have HROW := Lib.hid hrow
  have HK := Lib.hid hk1
  clear hb1 hk1 hown hO hmap hA0 hst hrow
  walk_nrm
  (refine opsV_op_k rfl (by rfl) (fun B hn => opsH hn hgl (by first | rfl | kernel_rfl)) ?_; intro τ p K hK; go_simp; refine hK _ _ ?_; clear hK K p τ; (try walk_nrm))
  (refine opsV_op_k rfl (by rfl) (fun B hn => opsH hn hgl (by first | rfl | kernel_rfl)) ?_; intro τ p K hK; go_simp; refine hK _ _ ?_; clear hK K p τ; (try walk_nrm))
  (refine opsV_op_k rfl (by rfl) (fun B hn => opsH hn hgl (by first | rfl | kernel_rfl)) ?_; intro τ p K hK; go_simp; refine hK _ _ ?_; clear hK K p τ; (try walk_nrm))
  (refine opsV_op_k rfl (by rfl) (fun B hn => opsH hn hgl (by first | rfl | kernel_rfl)) ?_; intro τ p K hK; go_simp; refine hK _ _ ?_; clear hK K p τ; (try walk_nrm))
  (refine opsV_op_k rfl (by rfl) (fun B hn => opsH hn hgl (by first | rfl | kernel_rfl)) ?_; intro τ p K hK; go_simp; refine hK _ _ ?_; clear hK K p τ; (try walk_nrm))
  (refine opsV_nil ?_; (try dsimp only [thenV_normal, inBV_normal]))
  (refine wpV_seq ?_)
  (refine wpV_seq ?_)
  (refine wpV_region ?_; simp only [List.size_toArray, List.length_cons, List.length_nil, Nat.reduceAdd, Nat.zero_add, List.range, List.range.loop])
  (refine opsV_op_k rfl (by rfl) (fun B hn => opsH hn hgl (by first | rfl | kernel_rfl)) ?_; intro τ p K hK; go_simp; refine hK _ _ ?_; clear hK K p τ; (try walk_nrm))
  (refine opsV_op_k rfl (by rfl) (fun B hn => opsH hn hgl (by first | rfl | kernel_rfl)) ?_; intro τ p K hK; go_simp; refine hK _ _ ?_; clear hK K p τ; (try walk_nrm))
  (refine opsV_nil ?_; (try dsimp only [thenV_normal, inBV_normal]))
  (refine wpV_cond_f rfl ?_)
  (refine wpV_skip ?_; (try dsimp only [thenV_normal, inBV_normal]))
  (refine wpV_seq ?_)
  (refine wpV_region ?_; simp only [List.size_toArray, List.length_cons, List.length_nil, Nat.reduceAdd, Nat.zero_add, List.range, List.range.loop])
  (refine opsV_op_k rfl (by rfl) (fun B hn => opsH hn hgl (by first | rfl | kernel_rfl)) ?_; intro τ p K hK; go_simp; refine hK _ _ ?_; clear hK K p τ; (try walk_nrm))
  (refine opsV_op_k rfl (by rfl) (fun B hn => opsH hn hgl (by first | rfl | kernel_rfl)) ?_; intro τ p K hK; go_simp; refine hK _ _ ?_; clear hK K p τ; (try walk_nrm))
  rw [show ((q : Int).tmod 20) = (most : Int) from by rw [HMO.out]; rfl]
  (refine opsV_op_k rfl (by rfl) (fun B hn => opsH hn hgl (by first | rfl | kernel_rfl)) ?_; intro τ p K hK; go_simp; refine hK _ _ ?_; clear hK K p τ; (try walk_nrm))
  have hw : IntKind.i64.wrap (most : Int) = (most : Int) := by rw [IntKind.wrap_i64]; omega
  try rw [hw]
  (refine opsV_op_k rfl (by rfl) (fun B hn => opsH hn hgl (by first | rfl | kernel_rfl)) ?_; intro τ p K hK; go_simp; refine hK _ _ ?_; clear hK K p τ; (try walk_nrm))
  obtain ⟨u2, hu2⟩ : ∃ u2, u2 = u1.alloc (.cells #[.slice none 0 0, .int .i64 most] 30) := ⟨_, rfl⟩
  obtain ⟨gc, hgc⟩ : ∃ gc, gc = u1.heap.size := ⟨_, rfl⟩
  have HU2 := Lib.hid hu2
  have HGC := Lib.hid hgc
  clear hu2 hgc
  (refine opsV_op_k rfl (by rfl) (fun B hn => opsH hn hgl (by first | rfl | kernel_rfl)) ?_; intro τ p K hK; go_simp; refine hK _ _ ?_; clear hK K p τ; (try walk_nrm))
  rw [← HU2.out, ← HGC.out]
  (refine opsV_op_k rfl (by rfl) (fun B hn => opsH hn hgl (by first | rfl | kernel_rfl)) ?_; intro τ p K hK; go_simp; refine hK _ _ ?_; clear hK K p τ; (try walk_nrm))
  (refine opsV_nil ?_; (try dsimp only [thenV_normal, inBV_normal]))
  have hb2 : Bl u1.heap.size u1 u2 := by rw [HU2.out]; exact (Bl.refl _ _).alloc (Nat.le_refl _) _
  have hk2 : Kept F1 v u2 := HK.out.bl hb2
  have hgcv : v.heap.size ≤ gc := by rw [HGC.out]; exact HK.out.size
  have hgcF : ¬ F1 gc := fun hF => by have := HH.out.lt gc hF; omega
  have hgcG : Gd gc := HH.out.gF gc
  have hgcB : u2.heap[gc]? = some (.cells #[.slice none 0 0, .int .i64 most] 30 (0, 0)) := by rw [HU2.out, HGC.out]; exact heap_alloc_new u1 _
  have hst2 : ∀ (i : Nat) (x : St4), sts[i]? = some x → x.ok (fun b => b < u2.heap.size) u2 := fun i x hx => st4_bl hb2 (HST.out i x hx)
  have hrow2 : ∀ (i : Nat) (x : St4), sts[i]? = some x → u2.rangeAt bst (i * 2) x.cells := fun i x hx => by
    have h0 := HROW.out i x hx
    exact hb2.range (World.block_lt_of_cell? u1 ⟨bst, i * 2 + 0, none⟩ (h0 0 _ rfl)) h0
  have hmc0 := merge_callsV (Gd := Gd) (F := F1) (v := u2) (sts := sts) (A := A') (bst := bst) (capS := capS) (sb := sb) (so := so) (kc := kc) hgl (fun b _ => HH.out.gF b) (hk2.kinds HH.out.emp HH.out.kinds) (by rw [HMAP.out]; exact HF.out) (fun x hx => HH.out.z3 (strm x) (by rw [← HMAP.out]; exact List.mem_map_of_mem hx)) HA0.out hst2 hrow2
  have HGV := Lib.hid hgcv
  have HGB := Lib.hid hgcB
  have HB2 := Lib.hid hb2
  have HK2 := Lib.hid hk2
  clear hb2 hk2 hgcv hgcB hst2 hrow2
  have hmc : CallsV Vh Tryz.prog Gd 16 #[.slice A' sts.length capS] F1 u2 fun F' z v' => F' = F1 ∧ z = .tuple #[.slice none 0 0, .int .i64 E] ∧ Bl u2.heap.size u2 v' := callsV_mono hmc0 fun F' z v' hR => by
    rcases hR with ⟨_, h1, h2, h3⟩ | ⟨h0, _⟩
    · rw [HMAP.out, ← HEE.out] at h2
      exact ⟨h1, h2, h3⟩
    · rw [HMAP.out] at h0
      exact absurd h0 HE.out
  have hec := each_bad hgl gc (by rw [HEE.out]; exact HE.out) hmc
  clear hmc0 hmc
  (refine wpV_seq ?_)
  (refine wpV_region ?_; simp only [List.size_toArray, List.length_cons, List.length_nil, Nat.reduceAdd, Nat.zero_add, List.range, List.range.loop])
  (refine opsV_op_k rfl (by rfl) (fun B hn => opsH hn hgl (by first | rfl | kernel_rfl)) ?_; intro τ p K hK; go_simp; refine hK _ _ ?_; clear hK K p τ; (try walk_nrm))
  (refine opsV_op_k rfl (by rfl) (fun B hn => opsH hn hgl (by first | rfl | kernel_rfl)) ?_; intro τ p K hK; go_simp; refine hK _ _ ?_; clear hK K p τ; (try walk_nrm))
  refine opsV_pureS (x := takeV gc) (es := #[]) rfl (by rfl) (exec_mf (fv := #[.pointer (some ⟨gc, 0, none⟩)]) (cv := #[]) rfl (by walk_nrm <;> rfl) (by simp)) (fun w => by kernel_rfl) (by rfl) (pf_take hgcG) ?_
  walk_nrm
  (refine opsV_enter (R := ?R38) rfl (by rfl) (run_callV rfl rfl Tryz.func6 (by kernel_rfl) rfl) (pf_call hgl (by rfl)) ?hc38 ?hn38; case hc38 => (walk_nrm; exact hec))
  rintro F2 z u3 ⟨rfl, r, rfl, hr, hrs, hb3⟩
  have hk3 : Kept F2 v u3 := HK2.out.bl hb3
  have hrl : r < u3.heap.size := World.block_lt_of_cell? u3 ⟨r, 0, none⟩ hr
  have hgB3 : u3.heap[gc]? = some (.cells #[.slice none 0 0, .int .i64 most] 30 (0, 0)) := (hb3.block gc (heap_lt HGB.out)).trans HGB.out
  have HR := Lib.hid hr
  have HRL := Lib.hid hrl
  have HG3 := Lib.hid hgB3
  have HK3 := Lib.hid hk3
  clear hk3 hr hrs hb3 hrl hgB3 hec
  walk_nrm
  (refine opsV_op_k rfl (by rfl) (fun B hn => opsH hn hgl (by first | rfl | kernel_rfl)) ?_; intro τ p K hK; go_simp; refine hK _ _ ?_; clear hK K p τ; (try walk_nrm))
  (refine opsV_nil ?_; (try dsimp only [thenV_normal, inBV_normal]))
  obtain ⟨ti, hti⟩ : ∃ ti, ti = u3.heap.size := ⟨_, rfl⟩
  obtain ⟨u4, hu4⟩ : ∃ u4, u4 = u3.alloc (.cells #[.pointer none] 35) := ⟨_, rfl⟩
  have HU4 := Lib.hid hu4
  have HTI := Lib.hid hti
  clear hu4 hti
  (refine wpV_seq ?_)
  (refine wpV_region ?_; simp only [List.size_toArray, List.length_cons, List.length_nil, Nat.reduceAdd, Nat.zero_add, List.range, List.range.loop])
  (refine opsV_op_k rfl (by rfl) (fun B hn => opsH hn hgl (by first | rfl | kernel_rfl)) ?_; intro τ p K hK; go_simp; refine hK _ _ ?_; clear hK K p τ; (try walk_nrm))
  rw [← HU4.out, ← HTI.out]
  (refine opsV_nil ?_; (try dsimp only [thenV_normal, inBV_normal]))
  obtain ⟨tr, htr⟩ : ∃ tr, tr = u4.heap.size := ⟨_, rfl⟩
  obtain ⟨u5, hu5⟩ : ∃ u5, u5 = u4.alloc (.cells #[.pointer none] 36) := ⟨_, rfl⟩
  have HU5 := Lib.hid hu5
  have HTR := Lib.hid htr
  clear hu5 htr
  (refine wpV_seq ?_)
  (refine wpV_region ?_; simp only [List.size_toArray, List.length_cons, List.length_nil, Nat.reduceAdd, Nat.zero_add, List.range, List.range.loop])
  (refine opsV_op_k rfl (by rfl) (fun B hn => opsH hn hgl (by first | rfl | kernel_rfl)) ?_; intro τ p K hK; go_simp; refine hK _ _ ?_; clear hK K p τ; (try walk_nrm))
  rw [← HU5.out, ← HTR.out]
  (refine opsV_nil ?_; (try dsimp only [thenV_normal, inBV_normal]))
  have hb5 : Bl u3.heap.size u3 u5 := by rw [HU5.out, HU4.out]; exact ((Bl.refl _ _).alloc (Nat.le_refl _) _).alloc (by simp) _
  have htb4 : u4.heap[ti]? = some (.cells #[.pointer none] 35 (0, 0)) := by rw [HU4.out, HTI.out]; exact heap_alloc_new u3 _
  have htb5 : u5.heap[ti]? = some (.cells #[.pointer none] 35 (0, 0)) := by rw [HU5.out]; exact (Below.heap_alloc u4 _ ti (heap_lt htb4)).trans htb4
  have hk5 : Kept F2 v u5 := HK3.out.bl hb5
  have hrow5 := (hk5.srow HH.out.emp HH.out.row).more hk5.size
  have hchk := chk_go (F := F2) (cap := cap) hgl hrow5 HH.out.len HF.out HH.out.z3
  rw [← HEE.out] at hchk
  have HB5 := Lib.hid hb5
  have HT5 := Lib.hid htb5
  have HK5 := Lib.hid hk5
  clear hb5 htb4 htb5 hk5 hrow5
  (refine wpV_seq ?_)
  (refine wpV_seq ?_)
  (refine wpV_region ?_; simp only [List.size_toArray, List.length_cons, List.length_nil, Nat.reduceAdd, Nat.zero_add, List.range, List.range.loop])
  (refine opsV_op_k rfl (by rfl) (fun B hn => opsH hn hgl (by first | rfl | kernel_rfl)) ?_; intro τ p K hK; go_simp; refine hK _ _ ?_; clear hK K p τ; (try walk_nrm))
  (refine opsV_enter (R := ?R53) rfl (by rfl) (run_callV rfl rfl Tryz.func8 (by kernel_rfl) rfl) (pf_call hgl (by rfl)) ?hc53 ?hn53; case hc53 => (walk_nrm; exact hchk))
  rintro F3 z u6 ⟨rfl, rfl, hb6⟩
  have hk6 : Kept F3 v u6 := HK5.out.bl hb6
  have hb36 : Bl u3.heap.size u3 u6 := HB5.out.trans (hb6.mono HB5.out.size)
  have htb6 : u6.heap[ti]? = some (.cells #[.pointer none] 35 (0, 0)) := (hb6.block ti (heap_lt HT5.out)).trans HT5.out
  have hr6 : u6.cell? ⟨r, 0, none⟩ = some (.int .i64 E) := bl_cell hb36 HR.out
  have hgB6 : u6.heap[gc]? = some (.cells #[.slice none 0 0, .int .i64 most] 30 (0, 0)) := (hb36.block gc (heap_lt HG3.out)).trans HG3.out
  have hasI := asI_go (F := F3) hgl HH.out.g6 (r := r) (t := ti) (hk6.errT HH.out.emp HH.out.errT) htb6
  have HK6 := Lib.hid hk6
  have HR6 := Lib.hid hr6
  have HG6 := Lib.hid hgB6
  clear hk6 hb6 hb36 htb6 hr6 hgB6 hchk
  walk_nrm
  (refine opsV_op_k rfl (by rfl) (fun B hn => opsH hn hgl (by first | rfl | kernel_rfl)) ?_; intro τ p K hK; go_simp; refine hK _ _ ?_; clear hK K p τ; (try walk_nrm))
  (refine opsV_nil ?_; (try dsimp only [thenV_normal, inBV_normal]))
  (refine wpV_seq ?_)
  (refine wpV_region ?_; simp only [List.size_toArray, List.length_cons, List.length_nil, Nat.reduceAdd, Nat.zero_add, List.range, List.range.loop])
  (refine opsV_op_k rfl (by rfl) (fun B hn => opsH hn hgl (by first | rfl | kernel_rfl)) ?_; intro τ p K hK; go_simp; refine hK _ _ ?_; clear hK K p τ; (try walk_nrm))
  (refine opsV_op_k rfl (by rfl) (fun B hn => opsH hn hgl (by first | rfl | kernel_rfl)) ?_; intro τ p K hK; go_simp; refine hK _ _ ?_; clear hK K p τ; (try walk_nrm))
  (refine opsV_nil ?_; (try dsimp only [thenV_normal, inBV_normal]))
  (refine wpV_cond_t rfl ?_)
  (refine wpV_seq ?_)
  (refine wpV_region ?_; simp only [List.size_toArray, List.length_cons, List.length_nil, Nat.reduceAdd, Nat.zero_add, List.range, List.range.loop])
  (refine opsV_op_k rfl (by rfl) (fun B hn => opsH hn hgl (by first | rfl | kernel_rfl)) ?_; intro τ p K hK; go_simp; refine hK _ _ ?_; clear hK K p τ; (try walk_nrm))
  (refine opsV_op_k rfl (by rfl) (fun B hn => opsH hn hgl (by first | rfl | kernel_rfl)) ?_; intro τ p K hK; go_simp; refine hK _ _ ?_; clear hK K p τ; (try walk_nrm))
  (refine opsV_enter (R := ?R66) rfl (by rfl) (run_callV rfl rfl Tryz.func9 (by kernel_rfl) rfl) (pf_call hgl (by rfl)) ?hc66 ?hn66; case hc66 => (walk_nrm; exact hasI))
  rintro F4 z u7 ⟨rfl, rfl, hpa⟩
  have hrt : r ≠ ti := by rw [HTI.out]; have := HRL.out; omega
  have hgt : gc ≠ ti := by rw [HTI.out]; have := heap_lt HG3.out; omega
  have htv : v.heap.size ≤ ti := by rw [HTI.out]; exact HK3.out.size
  have hk7 : Kept F4 v u7 := HK6.out.pa htv hpa
  have hc1 := hpa.at_
  have hc2 := hpa.cell HR6.out hrt
  have hgB7 : u7.heap[gc]? = some (.cells #[.slice none 0 0, .int .i64 most] 30 (0, 0)) := (hpa.keep gc (heap_lt HG6.out) hgt).trans HG6.out
  have hinv := inv_go (F := F4) hgl Hee.out.2 (r := r) (by rw [← Hee.out.1, ← HEE.out]; exact hc2) (HH.out.tab' hk7)
  have HK7 := Lib.hid hk7
  have HG7 := Lib.hid hgB7
  have HC2 := Lib.hid hc2
  clear hk7 hgB7 hasI hpa hrt hgt htv
  walk_nrm
  (refine opsV_op_k rfl (by rfl) (fun B hn => opsH hn hgl (by first | rfl | kernel_rfl)) ?_; intro τ p K hK; go_simp; refine hK _ _ ?_; clear hK K p τ; (try walk_nrm))
  (refine opsV_op_k rfl (by rfl) (fun B hn => opsH hn hgl (by first | rfl | kernel_rfl)) ?_; intro τ p K hK; go_simp; refine hK _ _ ?_; clear hK K p τ; (try walk_nrm))
  (refine opsV_op_k rfl (by rfl) (fun B hn => opsH hn hgl (by first | rfl | kernel_rfl)) ?_; intro τ p K hK; go_simp; refine hK _ _ ?_; clear hK K p τ; (try walk_nrm))
  (refine opsV_op_k rfl (by rfl) (fun B hn => opsH hn hgl (by first | rfl | kernel_rfl)) ?_; intro τ p K hK; go_simp; refine hK _ _ ?_; clear hK K p τ; (try walk_nrm))
  (refine opsV_op_k rfl (by rfl) (fun B hn => opsH hn hgl (by first | rfl | kernel_rfl)) ?_; intro τ p K hK; go_simp; refine hK _ _ ?_; clear hK K p τ; (try walk_nrm))
  (refine opsV_op_k rfl (by rfl) (fun B hn => opsH hn hgl (by first | rfl | kernel_rfl)) ?_; intro τ p K hK; go_simp; refine hK _ _ ?_; clear hK K p τ; (try walk_nrm))
  (refine opsV_op_k rfl (by rfl) (fun B hn => opsH hn hgl (by first | rfl | kernel_rfl)) ?_; intro τ p K hK; go_simp; refine hK _ _ ?_; clear hK K p τ; (try walk_nrm))
  (refine opsV_op_k rfl (by rfl) (fun B hn => opsH hn hgl (by first | rfl | kernel_rfl)) ?_; intro τ p K hK; go_simp; refine hK _ _ ?_; clear hK K p τ; (try walk_nrm))
  (refine opsV_op_k rfl (by rfl) (fun B hn => opsH hn hgl (by first | rfl | kernel_rfl)) ?_; intro τ p K hK; go_simp; refine hK _ _ ?_; clear hK K p τ; (try walk_nrm))
  (refine opsV_op_k rfl (by rfl) (fun B hn => opsH hn hgl (by first | rfl | kernel_rfl)) ?_; intro τ p K hK; go_simp; refine hK _ _ ?_; clear hK K p τ; (try walk_nrm))
  (refine opsV_enter (R := ?R77) rfl (by rfl) (run_callV rfl rfl Tryz.func10 (by kernel_rfl) rfl) (pf_call hgl (by rfl)) ?hc77 ?hn77; case hc77 => (walk_nrm; exact hinv))
  rintro F5 z u8 ⟨rfl, ⟨s, rfl, hs⟩, hb8⟩
  have hs0 : (s == (⟨#[]⟩ : ByteArray)) = false := by (rw [Bool.eq_false_iff]; intro hb; simp only [Go.MapKept.bytes_beq] at hb; rw [hb] at hs; exact absurd hs (by decide))
  have hs1 : s.toList.isEmpty = false := ba_full hs
  have hk8 : Kept F5 v u8 := HK7.out.bl hb8
  have hgB8 : u8.heap[gc]? = some (.cells #[.slice none 0 0, .int .i64 most] 30 (0, 0)) := (hb8.block gc (heap_lt HG7.out)).trans HG7.out
  have hc0 := cell_of_row u8 gc 0 _ _ _ hgB8
  simp only [List.getElem?_toArray, List.getElem?_cons_zero] at hc0
  have hkn := known_callsV (Gd := Gd) (F := F5) (v := u8) hgl (fun b _ => HH.out.gF b) (hk8.kinds HH.out.emp HH.out.kinds)
  have HK8 := Lib.hid hk8
  clear hk8 hgB8 hb8 hinv hc1 hc2 hs
  walk_nrm
  (refine opsV_op_k rfl (by rfl) (fun B hn => opsH hn hgl (by first | rfl | kernel_rfl)) ?_; intro τ p K hK; go_simp; refine hK _ _ ?_; clear hK K p τ; (try walk_nrm))
  (refine opsV_op_k rfl (by rfl) (fun B hn => opsH hn hgl (by first | rfl | kernel_rfl)) ?_; intro τ p K hK; go_simp; refine hK _ _ ?_; clear hK K p τ; (try walk_nrm))
  (refine opsV_op_k rfl (by rfl) (fun B hn => opsH hn hgl (by first | rfl | kernel_rfl)) ?_; intro τ p K hK; go_simp; refine hK _ _ ?_; clear hK K p τ; (try walk_nrm))
  (refine opsV_op_k rfl (by rfl) (fun B hn => opsH hn hgl (by first | rfl | kernel_rfl)) ?_; intro τ p K hK; go_simp; refine hK _ _ ?_; clear hK K p τ; (try walk_nrm))
  (refine opsV_op_k rfl (by rfl) (fun B hn => opsH hn hgl (by first | rfl | kernel_rfl)) ?_; intro τ p K hK; go_simp; refine hK _ _ ?_; clear hK K p τ; (try walk_nrm))
  (refine opsV_op_k rfl (by rfl) (fun B hn => opsH hn hgl (by first | rfl | kernel_rfl)) ?_; intro τ p K hK; go_simp; refine hK _ _ ?_; clear hK K p τ; (try walk_nrm))
  (refine opsV_op_k rfl (by rfl) (fun B hn => opsH hn hgl (by first | rfl | kernel_rfl)) ?_; intro τ p K hK; go_simp; refine hK _ _ ?_; clear hK K p τ; (try walk_nrm))
  (refine opsV_op_k rfl (by rfl) (fun B hn => opsH hn hgl (by first | rfl | kernel_rfl)) ?_; intro τ p K hK; go_simp; refine hK _ _ ?_; clear hK K p τ; (try walk_nrm))
  (refine opsV_op_k rfl (by rfl) (fun B hn => opsH hn hgl (by first | rfl | kernel_rfl)) ?_; intro τ p K hK; go_simp; refine hK _ _ ?_; clear hK K p τ; (try walk_nrm))
  (refine opsV_op_k rfl (by rfl) (fun B hn => opsH hn hgl (by first | rfl | kernel_rfl)) ?_; intro τ p K hK; go_simp; refine hK _ _ ?_; clear hK K p τ; (try walk_nrm))
  (refine opsV_op_k rfl (by rfl) (fun B hn => opsH hn hgl (by first | rfl | kernel_rfl)) ?_; intro τ p K hK; go_simp; refine hK _ _ ?_; clear hK K p τ; (try walk_nrm))
  (refine opsV_enter (R := ?R89) rfl (by rfl) (run_callV rfl rfl Tryz.func5 (by kernel_rfl) rfl) (pf_call hgl (by rfl)) ?hc89 ?hn89; case hc89 => (walk_nrm; exact hkn))
  rintro F6 z u9 ⟨rfl, hm⟩
  have HM := Lib.hid hm
  clear hm hkn
  walk_nrm
  (refine opsV_op_k rfl (by rfl) (fun B hn => opsH hn hgl (by first | rfl | kernel_rfl)) ?_; intro τ p K hK; go_simp; refine hK _ _ ?_; clear hK K p τ; (try walk_nrm))
  (refine opsV_op_k rfl (by rfl) (fun B hn => opsH hn hgl (by first | rfl | kernel_rfl)) ?_; intro τ p K hK; go_simp; refine hK _ _ ?_; clear hK K p τ; (try walk_nrm))
  (refine opsV_nil ?_; (try dsimp only [thenV_normal, inBV_normal]))
  (refine wpV_ret ?_; (try dsimp only [thenV_ret, inBV_ret]))
  exact ⟨.inr rfl, rfl, _, resultsC_tmp (by rfl) _, rfl, HK8.out.mrg HM.out, fun b hb hf => HM.out.old b (Nat.lt_of_lt_of_le hb HK8.out.size) hf⟩
end
end Go.Proofs.YtmmjlngbiilagaaGreatDoor

/-
  GOROUTINE 0's WALK: lemmas for GatewayEach at good streams.
-/
namespace Go.Proofs.YtmmjlngbiilagaaGreatDoor
open Go Go.Conc Go.Shelf Go.RowKit Go.Lib Go.Sort

theorem fold_get (f : Nat → Value) : ∀ (ds : List Nat) (t : Array Value) (s : Nat), (ds.foldl (fun t d => t.setIfInBounds d (f d)) t)[s]? = if s ∈ ds ∧ s < t.size then some (f s) else t[s]? := by
  intro ds
  induction ds with
  | nil => intro t s; simp
  | cons d ds ih =>
    intro t s
    rw [List.foldl_cons, ih]
    simp only [Array.size_setIfInBounds, Array.getElem?_setIfInBounds, List.mem_cons]
    by_cases h1 : s ∈ ds ∧ s < t.size
    · rw [if_pos h1, if_pos ⟨.inr h1.1, h1.2⟩]
    · rw [if_neg h1]
      by_cases h2 : d = s
      · subst h2
        rw [if_pos rfl]
        by_cases h3 : d < t.size
        · rw [if_pos h3, if_pos ⟨.inl rfl, h3⟩]
        · rw [if_neg h3, if_neg (fun h => h3 h.2), Array.getElem?_eq_none (by omega)]
      · rw [if_neg h2, if_neg (fun h => h.1.elim (fun e => h2 e.symm) fun h4 => h1 ⟨h4, h.2⟩)]
theorem RJ.act {ops : Array Oper} {a0 a : Act} {Y : Nat → Value → World → Prop} {S : (Nat → Bool) → World → Prop} {L : Nat → Bool} {v : World} (h : RJ ops a0 Y S L a v) {ds : List Nat}
    (hd : (ops.toList.all fun o => match o.dst with | some s => ds.contains s | none => true) = true) (hd0 : a0.defers = []) :
    ∃ f : Nat → Value, (∀ s, f s = a.tmps.getD s undef) ∧ a = ⟨ds.foldl (fun t d => t.setIfInBounds d (f d)) a0.tmps, []⟩ := by
  refine ⟨fun s => a.tmps.getD s undef, fun _ => rfl, ?_⟩
  have h1 : a.tmps = ds.foldl (fun t d => t.setIfInBounds d (a.tmps.getD d undef)) a0.tmps := by
    refine Array.ext_getElem? fun s => ?_
    rw [fold_get (fun s => a.tmps.getD s undef)]
    by_cases hs : s ∈ ds ∧ s < a0.tmps.size
    · rw [if_pos hs]
      have hl : s < a.tmps.size := by rw [h.size]; exact hs.2
      simp [Array.getElem?_eq_getElem hl, Array.getD, hl]
    · rw [if_neg hs]
      by_cases hl : s < a0.tmps.size
      · refine h.other s fun j o ho _ e => hs ⟨?_, hl⟩
        have := List.all_eq_true.1 hd o (by simpa using Array.mem_iff_getElem?.2 ⟨j, ho⟩)
        rw [e] at this
        simpa using this
      · have hz := h.size
        rw [Array.getElem?_eq_none (show a.tmps.size ≤ s by omega), Array.getElem?_eq_none (show a0.tmps.size ≤ s by omega)]
  have h2 := h.defers.trans hd0
  cases a
  simp only at h1 h2 ⊢
  rw [← h1, h2]
theorem own_sl {w : World} {base : Nat} {e : TypeId} {v : Value} {l : List M4} (h : w.ownsRow base e 4 v l.length (cellsL l)) : ∃ A cap, v = .slice A l.length cap ∧ MRow w w.heap.size A l := by
  by_cases h0 : l = []
  · subst h0
    rcases h.2 with ⟨rfl, _⟩ | ⟨g, cap, cur, rfl, _⟩
    · exact ⟨none, 0, rfl, .inl rfl⟩
    · exact ⟨_, cap, rfl, .inl rfl⟩
  · obtain ⟨g, cap, rfl, _, _, _, hm⟩ := row_own h h0
    exact ⟨_, cap, rfl, hm⟩
theorem mrow_bl {w w' : World} {A : Option Addr} {l : List M4} (h : MRow w w.heap.size A l) (hb : Bl w.heap.size w w') : MRow w' w'.heap.size A l :=
  MRow.more (h.imp id fun ⟨b, o, h1, h2, h3⟩ => ⟨b, o, h1, h2, fun j x hx => by
    obtain ⟨a, b, c, d⟩ := h3 j x hx
    exact ⟨bl_cell hb a, bl_cell hb b, bl_cell hb c, bl_cell hb d⟩⟩) hb.size
/-- The reference's row at one place. -/
theorem out_row {u : World} {base : Nat} {z : Value} {l : List M4} (h : OutR u base z l) {k : Nat} {x : M4} (hk : l[k]? = some x) : ∃ b cap, z = .slice (some ⟨b, 0, none⟩) l.length cap ∧ base ≤ b ∧ b < u.heap.size ∧ l.length ≤ cap ∧ MRow u u.heap.size (some ⟨b, 0, none⟩) l ∧ RowX b k x u := by
  rcases h with ⟨rfl, rfl⟩ | ⟨h0, h⟩
  · cases hk
  · obtain ⟨b, cap, rfl, h1, h2, h3, h4⟩ := row_own h h0
    refine ⟨b, cap, rfl, h1, h2, h3, h4, ?_⟩
    rcases h4 with e | ⟨b', o, e, _, hc⟩
    · exact absurd e h0
    · cases e
      obtain ⟨c0, c1, c2, c3⟩ := hc k x hk
      simp only [Nat.zero_add] at c0 c1 c2 c3
      exact ⟨c0, c1, c2, c3⟩
theorem msAll_flat (sts : List St4) : msAll sts = (sts.map strm).flatMap fun x => x.ms := by
  unfold msAll
  induction sts with
  | nil => rfl
  | cons s sts ih => simp only [List.flatMap_cons, List.map_cons, ih]; rfl
theorem flat_len (L : List Strm) : (L.flatMap fun x => x.ms).length = tot L := by
  unfold tot
  rw [List.length_flatMap]
/-- A message of valid streams is short. -/
theorem msg_small {L : List Strm} (hf : Fits L) (h : allE L = 0) {k : Nat} {x : M4} (hk : (rmg (L.flatMap fun x => x.ms))[k]? = some x) : x.m.size ≤ 1000 ∧ ∃ u : Nat, x.s = (u : Int) ∧ u ≤ 100000 := by
  have hx := (rmg_perm _).mem_iff.1 (List.mem_of_getElem? hk)
  obtain ⟨s, hs, hxs⟩ := List.mem_flatMap.1 hx
  obtain ⟨i, hi⟩ := List.mem_iff_getElem?.1 hs
  obtain ⟨j, hj⟩ := List.mem_iff_getElem?.1 hxs
  obtain ⟨h1, _, h2⟩ := valid_msgs h hi
  obtain ⟨h3, h4⟩ := h2 j x hj
  have hmo : MemOk s.mem := by simpa [memB] using h1
  have hj3 : j < s.ms.length := (List.getElem?_eq_some_iff.1 hj).1
  have := fits_len hf s hs
  refine ⟨by rw [h3]; have := hmo.2.1; omega, j + 1, by rw [h4]; push_cast; rfl, by omega⟩
section
variable {F F' : Nat → Prop} {v u u' : World}
theorem Kept.tk {gc base most : Nat} {l : List M4} (h : Kept F v u) (hg : v.heap.size ≤ gc) (ht : TkI gc base l most u u') : Kept F v u' :=
  ⟨ht.os.trans h.os, ht.output.trans h.output, Nat.le_trans h.size ht.size, fun b hl hf => (ht.keep b (Nat.lt_of_lt_of_le hl h.size) (by omega)).trans (h.block b hl hf)⟩
end
end Go.Proofs.YtmmjlngbiilagaaGreatDoor

/-
  GOROUTINE 0's WALK: GatewayEach at good streams, the consumer takes all.
-/
namespace Go.Proofs.YtmmjlngbiilagaaGreatDoor
open Go Go.Conc Go.Shelf Go.RowKit Go.Lib Go.Sort

theorem kept_end {F F2 F7 : Nat → Prop} {v u u' : World} (h : Kept F v u) (hm : MrgK F2 u F7 u') (ho : ∀ b, b < v.heap.size → F2 b → F b) : Kept F v u' :=
  ⟨hm.os.trans h.os, hm.output.trans h.output, Nat.le_trans h.size hm.size, fun b hl hf => (hm.same b (Nat.lt_of_lt_of_le hl h.size) fun h2 => hf (ho b hl h2)).trans (h.block b hl hf)⟩
theorem exec_min {a : Act} {o : Oper} {args : Array Operand} {ats : Array TypeId} {vals : Array Value} (hop : o.op = .call { callee := .builtin .min, args, argTypes := ats }) (hv : args.map a.eval = vals) : execOp a.eval o = (Builtin.min_ ats o.type vals).bind fun z => .pure (.value z) := by
  subst hv
  unfold execOp
  simp only [hop]
  rfl
section
variable {Gd : GB} {F : Nat → Prop} {v : World} {A : Option Addr} {n cap : Nat} {L : List Strm} {sb so kc : Nat}
set_option maxRecDepth 100000 in
set_option maxHeartbeats 32000000 in
theorem ge_few (h : GeIn Gd F A n L sb so kc v) (q : Nat) (hf : Fits L) (hE : allE L = 0) (hc : (rmg (L.flatMap fun x => x.ms)).length ≤ q % 20) : TopV Vh Tryz.prog Gd 3 #[.slice A n cap, .int .u8 q] F v (GeR F v) := by
  refine topV_body Tryz.func3 (by kernel_rfl) (by rfl) (by kernel_rfl) ?_
  simp only [Tryz.ntmps3]
  (simp only [List.size_toArray, List.length_cons, List.length_nil, Nat.reduceAdd, Nat.reduceSub, Array.replicate_succ, Array.replicate_zero, List.push_toArray, List.append_toArray, List.nil_append, List.cons_append])
  have hgl := h.gl
  have hown := own_go (F := F) (cap := cap) h.gl h.row h.len hf (fun x hx => Nat.le_trans (fits_len hf x hx) (by omega))
  obtain ⟨most, hmost⟩ : ∃ m, m = q % 20 := ⟨_, rfl⟩
  have hm20 : most < 20 := by omega
  have HMO := Lib.hid hmost
  have HH := Lib.hid h
  have HF := Lib.hid hf
  have HE := Lib.hid hE
  rw [← hmost] at hc
  have HC := Lib.hid hc
  clear h hf hE hc hmost
  (have tpc := tpC; have tpf := tpF; have tpa := tpA; have tps := tpS; have tph := tpH)
  (refine wpV_seq ?_)
  (refine wpV_region ?_; simp only [List.size_toArray, List.length_cons, List.length_nil, Nat.reduceAdd, Nat.zero_add, List.range, List.range.loop])
  (refine opsV_op_k rfl (by rfl) (fun B hn => opsH hn hgl (by first | rfl | kernel_rfl)) ?_; intro τ p K hK; go_simp; refine hK _ _ ?_; clear hK K p τ; (try walk_nrm))
  (refine opsV_nil ?_; (try dsimp only [thenV_normal, inBV_normal]))
  (refine wpV_seq ?_)
  (refine wpV_region ?_; simp only [List.size_toArray, List.length_cons, List.length_nil, Nat.reduceAdd, Nat.zero_add, List.range, List.range.loop])
  (refine opsV_op_k rfl (by rfl) (fun B hn => opsH hn hgl (by first | rfl | kernel_rfl)) ?_; intro τ p K hK; go_simp; refine hK _ _ ?_; clear hK K p τ; (try walk_nrm))
  (refine opsV_enter (R := ?R10) rfl (by rfl) (run_callV rfl rfl Tryz.func4 (by kernel_rfl) rfl) (pf_call hgl (by rfl)) ?hc10 ?hn10; case hc10 => (walk_nrm; exact hown))
  rintro F1 z u1 ⟨rfl, val, rfl, hO, hb1⟩
  have hk1 : Kept F1 v u1 := Kept.refl'.bl hb1
  obtain ⟨sts, A', bst, capS, rfl, hmap, hA0, hst, hrow⟩ := own_sts hO (fits_len HF.out)
  have HMAP := Lib.hid hmap
  have HA0 := Lib.hid hA0
  have HST := Lib.hid hst
  have HROW := Lib.hid hrow
  have HK := Lib.hid hk1
  clear hb1 hk1 hown hO hmap hA0 hst hrow
  walk_nrm
  (refine opsV_op_k rfl (by rfl) (fun B hn => opsH hn hgl (by first | rfl | kernel_rfl)) ?_; intro τ p K hK; go_simp; refine hK _ _ ?_; clear hK K p τ; (try walk_nrm))
  (refine opsV_op_k rfl (by rfl) (fun B hn => opsH hn hgl (by first | rfl | kernel_rfl)) ?_; intro τ p K hK; go_simp; refine hK _ _ ?_; clear hK K p τ; (try walk_nrm))
  (refine opsV_op_k rfl (by rfl) (fun B hn => opsH hn hgl (by first | rfl | kernel_rfl)) ?_; intro τ p K hK; go_simp; refine hK _ _ ?_; clear hK K p τ; (try walk_nrm))
  (refine opsV_op_k rfl (by rfl) (fun B hn => opsH hn hgl (by first | rfl | kernel_rfl)) ?_; intro τ p K hK; go_simp; refine hK _ _ ?_; clear hK K p τ; (try walk_nrm))
  (refine opsV_op_k rfl (by rfl) (fun B hn => opsH hn hgl (by first | rfl | kernel_rfl)) ?_; intro τ p K hK; go_simp; refine hK _ _ ?_; clear hK K p τ; (try walk_nrm))
  (refine opsV_nil ?_; (try dsimp only [thenV_normal, inBV_normal]))
  (refine wpV_seq ?_)
  (refine wpV_seq ?_)
  (refine wpV_region ?_; simp only [List.size_toArray, List.length_cons, List.length_nil, Nat.reduceAdd, Nat.zero_add, List.range, List.range.loop])
  (refine opsV_op_k rfl (by rfl) (fun B hn => opsH hn hgl (by first | rfl | kernel_rfl)) ?_; intro τ p K hK; go_simp; refine hK _ _ ?_; clear hK K p τ; (try walk_nrm))
  (refine opsV_op_k rfl (by rfl) (fun B hn => opsH hn hgl (by first | rfl | kernel_rfl)) ?_; intro τ p K hK; go_simp; refine hK _ _ ?_; clear hK K p τ; (try walk_nrm))
  (refine opsV_nil ?_; (try dsimp only [thenV_normal, inBV_normal]))
  (refine wpV_cond_f rfl ?_)
  (refine wpV_skip ?_; (try dsimp only [thenV_normal, inBV_normal]))
  (refine wpV_seq ?_)
  (refine wpV_region ?_; simp only [List.size_toArray, List.length_cons, List.length_nil, Nat.reduceAdd, Nat.zero_add, List.range, List.range.loop])
  (refine opsV_op_k rfl (by rfl) (fun B hn => opsH hn hgl (by first | rfl | kernel_rfl)) ?_; intro τ p K hK; go_simp; refine hK _ _ ?_; clear hK K p τ; (try walk_nrm))
  (refine opsV_op_k rfl (by rfl) (fun B hn => opsH hn hgl (by first | rfl | kernel_rfl)) ?_; intro τ p K hK; go_simp; refine hK _ _ ?_; clear hK K p τ; (try walk_nrm))
  rw [show ((q : Int).tmod 20) = (most : Int) from by rw [HMO.out]; rfl]
  (refine opsV_op_k rfl (by rfl) (fun B hn => opsH hn hgl (by first | rfl | kernel_rfl)) ?_; intro τ p K hK; go_simp; refine hK _ _ ?_; clear hK K p τ; (try walk_nrm))
  have hw : IntKind.i64.wrap (most : Int) = (most : Int) := by rw [IntKind.wrap_i64]; omega
  try rw [hw]
  (refine opsV_op_k rfl (by rfl) (fun B hn => opsH hn hgl (by first | rfl | kernel_rfl)) ?_; intro τ p K hK; go_simp; refine hK _ _ ?_; clear hK K p τ; (try walk_nrm))
  obtain ⟨u2, hu2⟩ : ∃ u2, u2 = u1.alloc (.cells #[.slice none 0 0, .int .i64 most] 30) := ⟨_, rfl⟩
  obtain ⟨gc, hgc⟩ : ∃ gc, gc = u1.heap.size := ⟨_, rfl⟩
  have HU2 := Lib.hid hu2
  have HGC := Lib.hid hgc
  clear hu2 hgc
  (refine opsV_op_k rfl (by rfl) (fun B hn => opsH hn hgl (by first | rfl | kernel_rfl)) ?_; intro τ p K hK; go_simp; refine hK _ _ ?_; clear hK K p τ; (try walk_nrm))
  rw [← HU2.out, ← HGC.out]
  (refine opsV_op_k rfl (by rfl) (fun B hn => opsH hn hgl (by first | rfl | kernel_rfl)) ?_; intro τ p K hK; go_simp; refine hK _ _ ?_; clear hK K p τ; (try walk_nrm))
  (refine opsV_nil ?_; (try dsimp only [thenV_normal, inBV_normal]))
  have hb2 : Bl u1.heap.size u1 u2 := by rw [HU2.out]; exact (Bl.refl _ _).alloc (Nat.le_refl _) _
  have hk2 : Kept F1 v u2 := HK.out.bl hb2
  have hgcv : v.heap.size ≤ gc := by rw [HGC.out]; exact HK.out.size
  have hgcF : ¬ F1 gc := fun hF => by have := HH.out.lt gc hF; omega
  have hgcG : Gd gc := HH.out.gF gc
  have hgcB : u2.heap[gc]? = some (.cells #[.slice none 0 0, .int .i64 most] 30 (0, 0)) := by rw [HU2.out, HGC.out]; exact heap_alloc_new u1 _
  have hst2 : ∀ (i : Nat) (x : St4), sts[i]? = some x → x.ok (fun b => b < u2.heap.size) u2 := fun i x hx => st4_bl hb2 (HST.out i x hx)
  have hrow2 : ∀ (i : Nat) (x : St4), sts[i]? = some x → u2.rangeAt bst (i * 2) x.cells := fun i x hx => by
    have h0 := HROW.out i x hx
    exact hb2.range (World.block_lt_of_cell? u1 ⟨bst, i * 2 + 0, none⟩ (h0 0 _ rfl)) h0
  have hmc0 := merge_callsV (Gd := Gd) (F := F1) (v := u2) (sts := sts) (A := A') (bst := bst) (capS := capS) (sb := sb) (so := so) (kc := kc) hgl (fun b _ => HH.out.gF b) (hk2.kinds HH.out.emp HH.out.kinds) (by rw [HMAP.out]; exact HF.out) (fun x hx => HH.out.z3 (strm x) (by rw [← HMAP.out]; exact List.mem_map_of_mem hx)) HA0.out hst2 hrow2
  have HGV := Lib.hid hgcv
  have HGB := Lib.hid hgcB
  have HB2 := Lib.hid hb2
  have HK2 := Lib.hid hk2
  clear hb2 hk2 hgcv hgcB hst2 hrow2
  have hmc : CallsV Vh Tryz.prog Gd 16 #[.slice A' sts.length capS] F1 u2 fun F' z v' => ∃ v1, Bl u2.heap.size u2 v1 ∧ MergeRes F1 v1 (L.flatMap fun x => x.ms) F' z v' := callsV_mono hmc0 fun F' z v' hR => by
    rcases hR with ⟨h0, _⟩ | ⟨_, h1⟩
    · rw [HMAP.out] at h0
      exact absurd HE.out h0
    · rw [msAll_flat, HMAP.out] at h1
      exact h1
  have hcons : Cons u2 gc 0 (.slice none 0 0) [] (most : Int) := ⟨HGB.out, ⟨by simp [cellsL], .inl ⟨rfl, rfl⟩⟩⟩
  have hec := each_good hgl gc most hgcG (heap_lt HGB.out) hgcF hcons _ (by rw [flat_len]; exact HF.out.2) (by omega) hmc
  clear hmc0 hmc hcons
  (refine wpV_seq ?_)
  (refine wpV_region ?_; simp only [List.size_toArray, List.length_cons, List.length_nil, Nat.reduceAdd, Nat.zero_add, List.range, List.range.loop])
  (refine opsV_op_k rfl (by rfl) (fun B hn => opsH hn hgl (by first | rfl | kernel_rfl)) ?_; intro τ p K hK; go_simp; refine hK _ _ ?_; clear hK K p τ; (try walk_nrm))
  (refine opsV_op_k rfl (by rfl) (fun B hn => opsH hn hgl (by first | rfl | kernel_rfl)) ?_; intro τ p K hK; go_simp; refine hK _ _ ?_; clear hK K p τ; (try walk_nrm))
  refine opsV_pureS (x := takeV gc) (es := #[]) rfl (by rfl) (exec_mf (fv := #[.pointer (some ⟨gc, 0, none⟩)]) (cv := #[]) rfl (by walk_nrm <;> rfl) (by simp)) (fun w => by kernel_rfl) (by rfl) (pf_take hgcG) ?_
  walk_nrm
  (refine opsV_enter (R := ?R38) rfl (by rfl) (run_callV rfl rfl Tryz.func6 (by kernel_rfl) rfl) (pf_call hgl (by rfl)) ?hc38 ?hn38; case hc38 => (walk_nrm; exact hec))
  rintro F2 z u3 ⟨ls, w2, hm2, hperm, hasc, hres⟩
  obtain rfl : ls = rmg (L.flatMap fun x => x.ms) := merged HE.out hperm hasc
  obtain ⟨ls, hls⟩ : ∃ ls, ls = rmg (L.flatMap fun x => x.ms) := ⟨_, rfl⟩
  have HLS := Lib.hid hls
  have hc := HC.out
  rw [← hls] at hres hc
  clear hls hperm hasc hec
  have hls3 : ls.length ≤ 300 := by rw [HLS.out, rmg_length, flat_len]; exact HF.out.2
  have hGF2 : ∀ b, Gd b := HH.out.gF
  have hold2 : ∀ b, b < v.heap.size → F2 b → F1 b := fun b hb hf => hm2.old b (Nat.lt_of_lt_of_le hb HK2.out.size) hf
  have hkw : Kept F1 v w2 := HK2.out.mrg hm2
  obtain ⟨rfl, hT⟩ : z = .nilIface ∧ TkI gc w2.heap.size (ls.take ls.length) most w2 u3 := by
    rcases hres with ⟨_, h1, h2⟩ | ⟨x, r, h1, _⟩
    · exact ⟨h1, by rw [List.take_of_length_le (Nat.le_refl _)]; exact h2⟩
    · have := (List.getElem?_eq_some_iff.1 h1).1
      omega
  clear hres
  obtain ⟨nn, hnn⟩ : ∃ nn, nn = ls.length := ⟨_, rfl⟩
  rw [← hnn] at hT
  have hnm : nn ≤ ls.length := by omega
  have hnl : (ls.take nn).length = nn := by rw [List.length_take]; omega
  have hmn : (if (most : Int) < (ls.length : Int) then (most : Int) else (ls.length : Int)) = (nn : Int) := by split <;> omega
  have HNN := Lib.hid hnn
  have hnE : ((nn : Int) == (ls.length : Int)) = true := by rw [hnn]; simp
  clear hnn
  have hk3 : Kept F1 v u3 := hkw.tk HGV.out hT
  have hg3 : gc < w2.heap.size := Nat.lt_of_lt_of_le (heap_lt HGB.out) hm2.size
  obtain ⟨vv, hcon, howns⟩ := hT.cons
  obtain ⟨A1, c1, rfl, hrow1⟩ := own_sl howns
  rw [hnl] at hcon
  have hgB3 : u3.heap[gc]? = some (.cells #[.slice A1 nn c1, .int .i64 most] 30 (0, 0)) := hcon
  have HG3 := Lib.hid hgB3
  have HK3 := Lib.hid hk3
  have HM3 := Lib.hid hrow1
  have HKW := Lib.hid hkw
  have HGF2 := Lib.hid hGF2
  have HOLD := Lib.hid hold2
  clear hm2 hkw hk3 hg3 hcon howns hgB3 hrow1 hT hGF2 hold2
  walk_nrm
  (refine opsV_op_k rfl (by rfl) (fun B hn => opsH hn hgl (by first | rfl | kernel_rfl)) ?_; intro τ p K hK; go_simp; refine hK _ _ ?_; clear hK K p τ; (try walk_nrm))
  (refine opsV_nil ?_; (try dsimp only [thenV_normal, inBV_normal]))
  obtain ⟨ti, hti⟩ : ∃ ti, ti = u3.heap.size := ⟨_, rfl⟩
  obtain ⟨u4, hu4⟩ : ∃ u4, u4 = u3.alloc (.cells #[.pointer none] 35) := ⟨_, rfl⟩
  have HU4 := Lib.hid hu4
  have HTI := Lib.hid hti
  clear hu4 hti
  (refine wpV_seq ?_)
  (refine wpV_region ?_; simp only [List.size_toArray, List.length_cons, List.length_nil, Nat.reduceAdd, Nat.zero_add, List.range, List.range.loop])
  (refine opsV_op_k rfl (by rfl) (fun B hn => opsH hn hgl (by first | rfl | kernel_rfl)) ?_; intro τ p K hK; go_simp; refine hK _ _ ?_; clear hK K p τ; (try walk_nrm))
  rw [← HU4.out, ← HTI.out]
  (refine opsV_nil ?_; (try dsimp only [thenV_normal, inBV_normal]))
  obtain ⟨tr, htr⟩ : ∃ tr, tr = u4.heap.size := ⟨_, rfl⟩
  obtain ⟨u5, hu5⟩ : ∃ u5, u5 = u4.alloc (.cells #[.pointer none] 36) := ⟨_, rfl⟩
  have HU5 := Lib.hid hu5
  have HTR := Lib.hid htr
  clear hu5 htr
  (refine wpV_seq ?_)
  (refine wpV_region ?_; simp only [List.size_toArray, List.length_cons, List.length_nil, Nat.reduceAdd, Nat.zero_add, List.range, List.range.loop])
  (refine opsV_op_k rfl (by rfl) (fun B hn => opsH hn hgl (by first | rfl | kernel_rfl)) ?_; intro τ p K hK; go_simp; refine hK _ _ ?_; clear hK K p τ; (try walk_nrm))
  rw [← HU5.out, ← HTR.out]
  (refine opsV_nil ?_; (try dsimp only [thenV_normal, inBV_normal]))
  have hb5 : Bl u3.heap.size u3 u5 := by rw [HU5.out, HU4.out]; exact ((Bl.refl _ _).alloc (Nat.le_refl _) _).alloc (by simp) _
  have htb4 : u4.heap[ti]? = some (.cells #[.pointer none] 35 (0, 0)) := by rw [HU4.out, HTI.out]; exact heap_alloc_new u3 _
  have htb5 : u5.heap[ti]? = some (.cells #[.pointer none] 35 (0, 0)) := by rw [HU5.out]; exact (Below.heap_alloc u4 _ ti (heap_lt htb4)).trans htb4
  have hrb5 : u5.heap[tr]? = some (.cells #[.pointer none] 36 (0, 0)) := by rw [HU5.out, HTR.out]; exact heap_alloc_new u4 _
  have hti_tr : ti < tr := by rw [HTR.out]; exact heap_lt htb4
  have hk5 : Kept F1 v u5 := HK3.out.bl hb5
  have hrow5 := (hk5.srow HH.out.emp HH.out.row).more hk5.size
  have hchk := chk_go (F := F2) (cap := cap) hgl hrow5 HH.out.len HF.out HH.out.z3
  rw [HE.out] at hchk
  have HB5 := Lib.hid hb5
  have HT5 := Lib.hid htb5
  have HR5 := Lib.hid hrb5
  have HK5 := Lib.hid hk5
  have HLT := Lib.hid hti_tr
  clear hb5 htb4 htb5 hrb5 hk5 hrow5 hti_tr
  (refine wpV_seq ?_)
  (refine wpV_seq ?_)
  (refine wpV_region ?_; simp only [List.size_toArray, List.length_cons, List.length_nil, Nat.reduceAdd, Nat.zero_add, List.range, List.range.loop])
  (refine opsV_op_k rfl (by rfl) (fun B hn => opsH hn hgl (by first | rfl | kernel_rfl)) ?_; intro τ p K hK; go_simp; refine hK _ _ ?_; clear hK K p τ; (try walk_nrm))
  (refine opsV_enter (R := ?R53) rfl (by rfl) (run_callV rfl rfl Tryz.func8 (by kernel_rfl) rfl) (pf_call hgl (by rfl)) ?hc53 ?hn53; case hc53 => (walk_nrm; exact hchk))
  rintro F3 z u6 ⟨rfl, rfl, hb6⟩
  have hk6 : Kept F1 v u6 := HK5.out.bl hb6
  have hb36 : Bl u3.heap.size u3 u6 := HB5.out.trans (hb6.mono HB5.out.size)
  have htb6 : u6.heap[ti]? = some (.cells #[.pointer none] 35 (0, 0)) := (hb6.block ti (heap_lt HT5.out)).trans HT5.out
  have hrb6 : u6.heap[tr]? = some (.cells #[.pointer none] 36 (0, 0)) := (hb6.block tr (heap_lt HR5.out)).trans HR5.out
  have hrow6 := (hk6.srow HH.out.emp HH.out.row).more hk6.size
  have hmg := mrg_go (F := F3) (cap := cap) hgl hrow6 HH.out.len HF.out HH.out.z4
  rw [← HLS.out] at hmg
  have HK6 := Lib.hid hk6
  have HB36 := Lib.hid hb36
  have HT6 := Lib.hid htb6
  have HR6 := Lib.hid hrb6
  clear hk6 hb6 hb36 htb6 hrb6 hchk hrow6
  walk_nrm
  (refine opsV_op_k rfl (by rfl) (fun B hn => opsH hn hgl (by first | rfl | kernel_rfl)) ?_; intro τ p K hK; go_simp; refine hK _ _ ?_; clear hK K p τ; (try walk_nrm))
  (refine opsV_nil ?_; (try dsimp only [thenV_normal, inBV_normal]))
  (refine wpV_seq ?_)
  (refine wpV_region ?_; simp only [List.size_toArray, List.length_cons, List.length_nil, Nat.reduceAdd, Nat.zero_add, List.range, List.range.loop])
  (refine opsV_op_k rfl (by rfl) (fun B hn => opsH hn hgl (by first | rfl | kernel_rfl)) ?_; intro τ p K hK; go_simp; refine hK _ _ ?_; clear hK K p τ; (try walk_nrm))
  (refine opsV_op_k rfl (by rfl) (fun B hn => opsH hn hgl (by first | rfl | kernel_rfl)) ?_; intro τ p K hK; go_simp; refine hK _ _ ?_; clear hK K p τ; (try walk_nrm))
  (refine opsV_nil ?_; (try dsimp only [thenV_normal, inBV_normal]))
  (refine wpV_cond_f rfl ?_)
  (refine wpV_skip ?_; (try dsimp only [thenV_normal, inBV_normal]))
  (refine wpV_seq ?_)
  (refine wpV_region ?_; simp only [List.size_toArray, List.length_cons, List.length_nil, Nat.reduceAdd, Nat.zero_add, List.range, List.range.loop])
  (refine opsV_op_k rfl (by rfl) (fun B hn => opsH hn hgl (by first | rfl | kernel_rfl)) ?_; intro τ p K hK; go_simp; refine hK _ _ ?_; clear hK K p τ; (try walk_nrm))
  (refine opsV_enter (R := ?R66) rfl (by rfl) (run_callV rfl rfl Tryz.func11 (by kernel_rfl) rfl) (pf_call hgl (by rfl)) ?hc66 ?hn66; case hc66 => (walk_nrm; exact hmg))
  rintro F4 z u7 ⟨rfl, hout, hb7⟩
  obtain ⟨A3, c3, rfl, hlc, _, hrow3⟩ := hout.sl
  have hb37 : Bl u3.heap.size u3 u7 := HB36.out.trans (hb7.mono HB36.out.size)
  have hk7 : Kept F1 v u7 := HK6.out.bl hb7
  have htb7 : u7.heap[ti]? = some (.cells #[.pointer none] 35 (0, 0)) := (hb7.block ti (heap_lt HT6.out)).trans HT6.out
  have hrb7 : u7.heap[tr]? = some (.cells #[.pointer none] 36 (0, 0)) := (hb7.block tr (heap_lt HR6.out)).trans HR6.out
  have hgB7 : u7.heap[gc]? = some (.cells #[.slice A1 nn c1, .int .i64 most] 30 (0, 0)) := (hb37.block gc (heap_lt HG3.out)).trans HG3.out
  have hrow1 : MRow u7 u7.heap.size A1 (ls.take nn) := mrow_bl HM3.out hb37
  have hc0 := cell_of_row u7 gc 0 _ _ _ hgB7
  have hc1 := cell_of_row u7 gc 1 _ _ _ hgB7
  simp only [List.getElem?_toArray, List.getElem?_cons_zero, List.getElem?_cons_succ] at hc0 hc1
  have hstep : ∀ a0 : Act, a0.tmps[7]? = some (.pointer (some ⟨gc, 0, none⟩)) → a0.tmps[12]? = some (.slice A3 ls.length c3) → a0.tmps[13]? = some (.int .i64 nn) → _ := fun a0 h7 h12 h13 =>
    r13_step (F := F4) (v0 := u7) (gc := gc) (n := nn) (m := ls.length) (c1 := c1) (c3 := c3) (A1 := A1) (A3 := A3) hgl (fun w hw => bl_cell hw hc0) hnm hlc
      (fun w hw => same_go (F := F4) hgl (mrow_bl hrow1 hw) (mrow_bl (hrow3.take nn) hw) (by rw [List.length_take]; omega) (by omega)) a0 h7 h12 h13
  have HOUT := Lib.hid hout
  have HB37 := Lib.hid hb37
  have HK7 := Lib.hid hk7
  have HT7 := Lib.hid htb7
  have HR7 := Lib.hid hrb7
  have HST13 := Lib.hid hstep
  have HLC := Lib.hid hlc
  have H76 := Lib.hid hb7.size
  clear hout hb37 hk7 htb7 hrb7 hgB7 hrow1 hrow3 hc0 hb7 hmg hstep hlc
  walk_nrm
  (refine opsV_op_k rfl (by rfl) (fun B hn => opsH hn hgl (by first | rfl | kernel_rfl)) ?_; intro τ p K hK; go_simp; refine hK _ _ ?_; clear hK K p τ; (try walk_nrm))
  (refine opsV_nil ?_; (try dsimp only [thenV_normal, inBV_normal]))
  (refine wpV_seq ?_)
  (refine wpV_region ?_; simp only [List.size_toArray, List.length_cons, List.length_nil, Nat.reduceAdd, Nat.zero_add, List.range, List.range.loop])
  (refine opsV_op_k rfl (by rfl) (fun B hn => opsH hn hgl (by first | rfl | kernel_rfl)) ?_; intro τ p K hK; go_simp; refine hK _ _ ?_; clear hK K p τ; (try walk_nrm))
  (refine opsV_op_k rfl (by rfl) (fun B hn => opsH hn hgl (by first | rfl | kernel_rfl)) ?_; intro τ p K hK; go_simp; refine hK _ _ ?_; clear hK K p τ; (try walk_nrm))
  (refine opsV_op_k rfl (by rfl) (fun B hn => opsH hn hgl (by first | rfl | kernel_rfl)) ?_; intro τ p K hK; go_simp; refine hK _ _ ?_; clear hK K p τ; (try walk_nrm))
  (refine opsV_op_k rfl (by rfl) (fun B hn => opsH hn hgl (by first | rfl | kernel_rfl)) ?_; intro τ p K hK; go_simp; refine hK _ _ ?_; clear hK K p τ; (try walk_nrm))
  (refine opsV_op_k rfl (by rfl) (fun B hn => opsH hn hgl (by first | rfl | kernel_rfl)) ?_; intro τ p K hK; go_simp; refine hK _ _ ?_; clear hK K p τ; (try walk_nrm))
  (refine opsV_op_k rfl (by rfl) (fun B hn => opsH hn hgl (by first | rfl | kernel_rfl)) ?_; intro τ p K hK; go_simp; refine hK _ _ ?_; clear hK K p τ; (try walk_nrm))
  refine opsV_pureS (s := (Builtin.min_ #[3, 3] 3 #[.int .i64 ls.length, .int .i64 most]).bind fun z => .pure (.value z)) (x := .int .i64 (if (most : Int) < (ls.length : Int) then (most : Int) else (ls.length : Int))) (es := #[]) rfl (by rfl) (exec_min rfl (by walk_nrm <;> rfl)) (fun w => by kernel_rfl) (by rfl) (.inr (.int _ _)) ?_
  rw [show (if (most : Int) < (ls.length : Int) then (most : Int) else (ls.length : Int)) = (nn : Int) from hmn]
  walk_nrm
  (refine opsV_op_k rfl (by rfl) (fun B hn => opsH hn hgl (by first | rfl | kernel_rfl)) ?_; intro τ p K hK; go_simp; refine hK _ _ ?_; clear hK K p τ; (try walk_nrm))
  (refine opsV_nil ?_; (try dsimp only [thenV_normal, inBV_normal]))
  (refine wpV_seq ?_)
  (refine wpV_seq ?_)
  refine wpV_any (ops := ops13G) (Y := fun i z _ => Z13 gc nn ls.length A1 A3 c1 c3 i z) (S := UR u7) (by kernel_rfl) (by kernel_rfl) (by kernel_rfl) (by kernel_rfl) (Bl.refl _ _) (HST13.out _ (by rfl) (by rfl) (by rfl)) (fun L a u8 hL hJ => ?_)
  dsimp only [thenV_normal]
  have hb8 : Bl u7.heap.size u7 u8 := hJ.s
  have h80 := hJ.val' (j := 8) (s := 80) (by kernel_rfl) (hL 8 (of_decide_eq_true (by kernel_rfl)))
  obtain ⟨f, hf80, ea⟩ := hJ.act (ds := [72, 73, 74, 75, 76, 77, 78, 79, 80]) (by kernel_rfl) (by rfl)
  have hv80 : f 80 = .bool false := (hf80 80).trans h80
  have hk8 : Kept F1 v u8 := HK7.out.bl hb8
  have htb8 : u8.heap[ti]? = some (.cells #[.pointer none] 35 (0, 0)) := (hb8.block ti (heap_lt HT7.out)).trans HT7.out
  have hrb8 : u8.heap[tr]? = some (.cells #[.pointer none] 36 (0, 0)) := (hb8.block tr (heap_lt HR7.out)).trans HR7.out
  have HB8 := Lib.hid hb8
  have HK8 := Lib.hid hk8
  have HT8 := Lib.hid htb8
  have HR8 := Lib.hid hrb8
  clear hJ h80 hL hf80 hb8 hk8 htb8 hrb8
  subst ea
  simp only [List.foldl_cons, List.foldl_nil]
  walk_nrm
  rw [hv80]
  (refine wpV_cond_f rfl ?_)
  (refine wpV_skip ?_; (try dsimp only [thenV_normal, inBV_normal]))
  (refine wpV_seq ?_)
  (refine wpV_seq ?_)
  (refine wpV_region ?_; simp only [List.size_toArray, List.length_cons, List.length_nil, Nat.reduceAdd, Nat.zero_add, List.range, List.range.loop])
  (refine opsV_op_k rfl (by rfl) (fun B hn => opsH hn hgl (by first | rfl | kernel_rfl)) ?_; intro τ p K hK; go_simp; refine hK _ _ ?_; clear hK K p τ; (try walk_nrm))
  (refine opsV_op_k rfl (by rfl) (fun B hn => opsH hn hgl (by first | rfl | kernel_rfl)) ?_; intro τ p K hK; go_simp; refine hK _ _ ?_; clear hK K p τ; (try walk_nrm))
  (refine opsV_op_k rfl (by rfl) (fun B hn => opsH hn hgl (by first | rfl | kernel_rfl)) ?_; intro τ p K hK; go_simp; refine hK _ _ ?_; clear hK K p τ; (try walk_nrm))
  (refine opsV_op_k rfl (by rfl) (fun B hn => opsH hn hgl (by first | rfl | kernel_rfl)) ?_; intro τ p K hK; go_simp; refine hK _ _ ?_; clear hK K p τ; (try walk_nrm))
  (refine opsV_nil ?_; (try dsimp only [thenV_normal, inBV_normal]))
  (refine wpV_cond_t rfl ?_)
  (refine wpV_seq ?_)
  (refine wpV_region ?_; simp only [List.size_toArray, List.length_cons, List.length_nil, Nat.reduceAdd, Nat.zero_add, List.range, List.range.loop])
  (refine opsV_op_k rfl (by rfl) (fun B hn => opsH hn hgl (by first | rfl | kernel_rfl)) ?_; intro τ p K hK; go_simp; refine hK _ _ ?_; clear hK K p τ; (try walk_nrm))
  (refine opsV_pureS (x := .bool false) (es := #[]) rfl (by rfl) (exec_bin rfl (by rfl) (by rfl)) (fun w => by kernel_rfl) (by rfl) (.inr (.bool _)) ?_; (try walk_nrm))
  (refine opsV_nil ?_; (try dsimp only [thenV_normal, inBV_normal]))
  (refine wpV_cond_f rfl ?_)
  (refine wpV_skip ?_; (try dsimp only [thenV_normal, inBV_normal]))
  have HK9 := HK8
  have HT9 := HT8

  have htv : v.heap.size ≤ ti := by rw [HTI.out]; exact HK3.out.size
  (refine wpV_seq ?_)
  (refine wpV_region ?_; simp only [List.size_toArray, List.length_cons, List.length_nil, Nat.reduceAdd, Nat.zero_add, List.range, List.range.loop])
  (refine opsV_op_k rfl (by rfl) (fun B hn => opsH hn hgl (by first | rfl | kernel_rfl)) ?_; intro τ p K hK; go_simp; refine hK _ _ ?_; clear hK K p τ; (try walk_nrm))
  (refine opsV_enter (R := ?R102) rfl (by rfl) (run_callV rfl rfl Tryz.func6 (by kernel_rfl) rfl) (pf_call hgl (by rfl)) ?hc102 ?hn102; case hc102 => (walk_nrm; exact each_nil hgl _))
  rintro F5 z u10 ⟨rfl, r2, rfl, hr2, hrs2, hb10⟩
  have hk10 : Kept F1 v u10 := HK9.out.bl hb10
  have htb10 : u10.heap[ti]? = some (.cells #[.pointer none] 35 (0, 0)) := (hb10.block ti (heap_lt HT9.out)).trans HT9.out
  have hrt : r2 ≠ ti := by have := heap_lt HT9.out; omega
  have hasI := asI_go (F := F5) hgl HH.out.g6 (r := r2) (t := ti) (hk10.errT HH.out.emp HH.out.errT) htb10
  have HK10 := Lib.hid hk10
  have HR10 := Lib.hid hr2
  clear hk10 hr2 hrs2 hb10 htb10
  walk_nrm
  (refine opsV_op_k rfl (by rfl) (fun B hn => opsH hn hgl (by first | rfl | kernel_rfl)) ?_; intro τ p K hK; go_simp; refine hK _ _ ?_; clear hK K p τ; (try walk_nrm))
  (refine opsV_nil ?_; (try dsimp only [thenV_normal, inBV_normal]))
  (refine wpV_seq ?_)
  (refine wpV_region ?_; simp only [List.size_toArray, List.length_cons, List.length_nil, Nat.reduceAdd, Nat.zero_add, List.range, List.range.loop])
  (refine opsV_op_k rfl (by rfl) (fun B hn => opsH hn hgl (by first | rfl | kernel_rfl)) ?_; intro τ p K hK; go_simp; refine hK _ _ ?_; clear hK K p τ; (try walk_nrm))
  (refine opsV_op_k rfl (by rfl) (fun B hn => opsH hn hgl (by first | rfl | kernel_rfl)) ?_; intro τ p K hK; go_simp; refine hK _ _ ?_; clear hK K p τ; (try walk_nrm))
  (refine opsV_enter (R := ?R109) rfl (by rfl) (run_callV rfl rfl Tryz.func9 (by kernel_rfl) rfl) (pf_call hgl (by rfl)) ?hc109 ?hn109; case hc109 => (walk_nrm; exact hasI))
  rintro F6 z u11 ⟨rfl, rfl, hpa⟩
  have hk11 : Kept F1 v u11 := HK10.out.pa htv hpa
  have hc1 := hpa.at_
  have hc2 := hpa.cell HR10.out hrt
  have hkn := known_callsV (Gd := Gd) (F := F6) (v := u11) hgl (fun b _ => HGF2.out b) (hk11.kinds HH.out.emp HH.out.kinds)
  have HK11 := Lib.hid hk11
  clear hk11 hpa hasI
  walk_nrm
  (refine opsV_op_k rfl (by rfl) (fun B hn => opsH hn hgl (by first | rfl | kernel_rfl)) ?_; intro τ p K hK; go_simp; refine hK _ _ ?_; clear hK K p τ; (try walk_nrm))
  (refine opsV_op_k rfl (by rfl) (fun B hn => opsH hn hgl (by first | rfl | kernel_rfl)) ?_; intro τ p K hK; go_simp; refine hK _ _ ?_; clear hK K p τ; (try walk_nrm))
  (refine opsV_op_k rfl (by rfl) (fun B hn => opsH hn hgl (by first | rfl | kernel_rfl)) ?_; intro τ p K hK; go_simp; refine hK _ _ ?_; clear hK K p τ; (try walk_nrm))
  (refine opsV_op_k rfl (by rfl) (fun B hn => opsH hn hgl (by first | rfl | kernel_rfl)) ?_; intro τ p K hK; go_simp; refine hK _ _ ?_; clear hK K p τ; (try walk_nrm))
  (refine opsV_op_k rfl (by rfl) (fun B hn => opsH hn hgl (by first | rfl | kernel_rfl)) ?_; intro τ p K hK; go_simp; refine hK _ _ ?_; clear hK K p τ; (try walk_nrm))
  (refine opsV_op_k rfl (by rfl) (fun B hn => opsH hn hgl (by first | rfl | kernel_rfl)) ?_; intro τ p K hK; go_simp; refine hK _ _ ?_; clear hK K p τ; (try walk_nrm))
  (refine opsV_op_k rfl (by rfl) (fun B hn => opsH hn hgl (by first | rfl | kernel_rfl)) ?_; intro τ p K hK; go_simp; refine hK _ _ ?_; clear hK K p τ; (try walk_nrm))
  (refine opsV_op_k rfl (by rfl) (fun B hn => opsH hn hgl (by first | rfl | kernel_rfl)) ?_; intro τ p K hK; go_simp; refine hK _ _ ?_; clear hK K p τ; (try walk_nrm))
  (refine opsV_enter (R := ?R118) rfl (by rfl) (run_callV rfl rfl Tryz.func5 (by kernel_rfl) rfl) (pf_call hgl (by rfl)) ?hc118 ?hn118; case hc118 => (walk_nrm; exact hkn))
  rintro F7 z u12 ⟨rfl, hm⟩
  have HM := Lib.hid hm
  clear hm hkn
  walk_nrm
  (refine opsV_op_k rfl (by rfl) (fun B hn => opsH hn hgl (by first | rfl | kernel_rfl)) ?_; intro τ p K hK; go_simp; refine hK _ _ ?_; clear hK K p τ; (try walk_nrm))
  (refine opsV_op_k rfl (by rfl) (fun B hn => opsH hn hgl (by first | rfl | kernel_rfl)) ?_; intro τ p K hK; go_simp; refine hK _ _ ?_; clear hK K p τ; (try walk_nrm))
  (refine opsV_nil ?_; (try dsimp only [thenV_normal, inBV_normal]))
  (refine wpV_ret ?_; (try dsimp only [thenV_ret, inBV_ret]))
  exact ⟨.inr rfl, rfl, _, resultsC_tmp (by rfl) _, rfl, kept_end HK11.out HM.out HOLD.out, fun b hb hf => HOLD.out b hb (HM.out.old b (Nat.lt_of_lt_of_le hb HK11.out.size) hf)⟩
end
end Go.Proofs.YtmmjlngbiilagaaGreatDoor
