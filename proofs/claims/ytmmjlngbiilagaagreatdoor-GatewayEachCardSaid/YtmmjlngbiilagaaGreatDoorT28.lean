/-
  GOROUTINE 0's WALK: GatewayEach at good streams, the consumer refuses.
-/
import Derived.Test.YtmmjlngbiilagaaGreatDoorT27
import Derived.Test.YtmmjlngbiilagaaGreatDoorRows
import Derived.LaidMore
import Derived.LaidHandle
import Derived.OpenShut
import Derived.ChangeSame
import Derived.SizedLaws
import Derived.Lib.SmallJoins
import Derived.LaidSub
import Derived.Lib.LaidTab
import Derived.Stop.LaidErr

namespace Go.Proofs.YtmmjlngbiilagaaGreatDoor
open Go Go.Conc Go.Shelf Go.RowKit Go.Lib Go.Sort

section
variable {Gd : GB} {F : Nat → Prop} {v : World} {A : Option Addr} {n cap : Nat} {L : List Strm} {sb so kc : Nat}
set_option maxRecDepth 100000 in
set_option maxHeartbeats 32000000 in
theorem ge_many (h : GeIn Gd F A n L sb so kc v) (q : Nat) (hf : Fits L) (hE : allE L = 0) (hc : q % 20 < (rmg (L.flatMap fun x => x.ms)).length) : TopV Vh Tryz.prog Gd 3 #[.slice A n cap, .int .u8 q] F v (GeR F v) := by
  refine topV_body Tryz.func3 (by kernel_rfl) (by rfl) (by kernel_rfl) ?_
  simp only [Tryz.ntmps3]
  (simp only [List.size_toArray, List.length_cons, List.length_nil, Nat.reduceAdd, Nat.reduceSub, Array.replicate_succ, Array.replicate_zero, List.push_toArray, List.append_toArray, List.nil_append, List.cons_append])
  have hgl := h.gl
  have hown := own_go (F := F) (cap := cap) h.gl h.row h.len hf (fun x hx => Nat.le_trans (fits_len hf x hx) (by omega))
  obtain ⟨most, hmost⟩ : ∃ m, m = q % 20 := ⟨_, rfl⟩
  have hm20 : most < 20 := by omega
  have HMO := Lib.hid hmost
  have HH := Lib.hid h
  have HF := Lib.hid hf
  have HE := Lib.hid hE
  rw [← hmost] at hc
  have HC := Lib.hid hc
  clear h hf hE hc hmost
  (have tpc := tpC; have tpf := tpF; have tpa := tpA; have tps := tpS; have tph := tpH)
  (refine wpV_seq ?_)
  (refine wpV_region ?_; simp only [List.size_toArray, List.length_cons, List.length_nil, Nat.reduceAdd, Nat.zero_add, List.range, List.range.loop])
  (refine opsV_op_k rfl (by rfl) (fun B hn => opsH hn hgl (by first | rfl | kernel_rfl)) ?_; intro τ p K hK; go_simp; refine hK _ _ ?_; clear hK K p τ; (try walk_nrm))
  (refine opsV_nil ?_; (try dsimp only [thenV_normal, inBV_normal]))
  (refine wpV_seq ?_)
  (refine wpV_region ?_; simp only [List.size_toArray, List.length_cons, List.length_nil, Nat.reduceAdd, Nat.zero_add, List.range, List.range.loop])
  (refine opsV_op_k rfl (by rfl) (fun B hn => opsH hn hgl (by first | rfl | kernel_rfl)) ?_; intro τ p K hK; go_simp; refine hK _ _ ?_; clear hK K p τ; (try walk_nrm))
  (refine opsV_enter (R := ?R10) rfl (by rfl) (run_callV rfl rfl Tryz.func4 (by kernel_rfl) rfl) (pf_call hgl (by rfl)) ?hc10 ?hn10; case hc10 => (walk_nrm; exact hown))
  rintro F1 z u1 ⟨rfl, val, rfl, hO, hb1⟩
  have hk1 : Kept F1 v u1 := Kept.refl'.bl hb1
  obtain ⟨sts, A', bst, capS, rfl, hmap, hA0, hst, hrow⟩ := own_sts hO (fits_len HF.out)
  have HMAP := Lib.hid hmap
  have HA0 := Lib.hid hA0
  have HST := Lib.hid hst
  have HROW := Lib.hid hrow
  have HK := Lib.hid hk1
  clear hb1 hk1 hown hO hmap hA0 hst hrow
  walk_nrm
  (refine opsV_op_k rfl (by rfl) (fun B hn => opsH hn hgl (by first | rfl | kernel_rfl)) ?_; intro τ p K hK; go_simp; refine hK _ _ ?_; clear hK K p τ; (try walk_nrm))
  (refine opsV_op_k rfl (by rfl) (fun B hn => opsH hn hgl (by first | rfl | kernel_rfl)) ?_; intro τ p K hK; go_simp; refine hK _ _ ?_; clear hK K p τ; (try walk_nrm))
  (refine opsV_op_k rfl (by rfl) (fun B hn => opsH hn hgl (by first | rfl | kernel_rfl)) ?_; intro τ p K hK; go_simp; refine hK _ _ ?_; clear hK K p τ; (try walk_nrm))
  (refine opsV_op_k rfl (by rfl) (fun B hn => opsH hn hgl (by first | rfl | kernel_rfl)) ?_; intro τ p K hK; go_simp; refine hK _ _ ?_; clear hK K p τ; (try walk_nrm))
  (refine opsV_op_k rfl (by rfl) (fun B hn => opsH hn hgl (by first | rfl | kernel_rfl)) ?_; intro τ p K hK; go_simp; refine hK _ _ ?_; clear hK K p τ; (try walk_nrm))
  (refine opsV_nil ?_; (try dsimp only [thenV_normal, inBV_normal]))
  (refine wpV_seq ?_)
  (refine wpV_seq ?_)
  (refine wpV_region ?_; simp only [List.size_toArray, List.length_cons, List.length_nil, Nat.reduceAdd, Nat.zero_add, List.range, List.range.loop])
  (refine opsV_op_k rfl (by rfl) (fun B hn => opsH hn hgl (by first | rfl | kernel_rfl)) ?_; intro τ p K hK; go_simp; refine hK _ _ ?_; clear hK K p τ; (try walk_nrm))
  (refine opsV_op_k rfl (by rfl) (fun B hn => opsH hn hgl (by first | rfl | kernel_rfl)) ?_; intro τ p K hK; go_simp; refine hK _ _ ?_; clear hK K p τ; (try walk_nrm))
  (refine opsV_nil ?_; (try dsimp only [thenV_normal, inBV_normal]))
  (refine wpV_cond_f rfl ?_)
  (refine wpV_skip ?_; (try dsimp only [thenV_normal, inBV_normal]))
  (refine wpV_seq ?_)
  (refine wpV_region ?_; simp only [List.size_toArray, List.length_cons, List.length_nil, Nat.reduceAdd, Nat.zero_add, List.range, List.range.loop])
  (refine opsV_op_k rfl (by rfl) (fun B hn => opsH hn hgl (by first | rfl | kernel_rfl)) ?_; intro τ p K hK; go_simp; refine hK _ _ ?_; clear hK K p τ; (try walk_nrm))
  (refine opsV_op_k rfl (by rfl) (fun B hn => opsH hn hgl (by first | rfl | kernel_rfl)) ?_; intro τ p K hK; go_simp; refine hK _ _ ?_; clear hK K p τ; (try walk_nrm))
  rw [show ((q : Int).tmod 20) = (most : Int) from by rw [HMO.out]; rfl]
  (refine opsV_op_k rfl (by rfl) (fun B hn => opsH hn hgl (by first | rfl | kernel_rfl)) ?_; intro τ p K hK; go_simp; refine hK _ _ ?_; clear hK K p τ; (try walk_nrm))
  have hw : IntKind.i64.wrap (most : Int) = (most : Int) := by rw [IntKind.wrap_i64]; omega
  try rw [hw]
  (refine opsV_op_k rfl (by rfl) (fun B hn => opsH hn hgl (by first | rfl | kernel_rfl)) ?_; intro τ p K hK; go_simp; refine hK _ _ ?_; clear hK K p τ; (try walk_nrm))
  obtain ⟨u2, hu2⟩ : ∃ u2, u2 = u1.alloc (.cells #[.slice none 0 0, .int .i64 most] 30) := ⟨_, rfl⟩
  obtain ⟨gc, hgc⟩ : ∃ gc, gc = u1.heap.size := ⟨_, rfl⟩
  have HU2 := Lib.hid hu2
  have HGC := Lib.hid hgc
  clear hu2 hgc
  (refine opsV_op_k rfl (by rfl) (fun B hn => opsH hn hgl (by first | rfl | kernel_rfl)) ?_; intro τ p K hK; go_simp; refine hK _ _ ?_; clear hK K p τ; (try walk_nrm))
  rw [← HU2.out, ← HGC.out]
  (refine opsV_op_k rfl (by rfl) (fun B hn => opsH hn hgl (by first | rfl | kernel_rfl)) ?_; intro τ p K hK; go_simp; refine hK _ _ ?_; clear hK K p τ; (try walk_nrm))
  (refine opsV_nil ?_; (try dsimp only [thenV_normal, inBV_normal]))
  have hb2 : Bl u1.heap.size u1 u2 := by rw [HU2.out]; exact (Bl.refl _ _).alloc (Nat.le_refl _) _
  have hk2 : Kept F1 v u2 := HK.out.bl hb2
  have hgcv : v.heap.size ≤ gc := by rw [HGC.out]; exact HK.out.size
  have hgcF : ¬ F1 gc := fun hF => by have := HH.out.lt gc hF; omega
  have hgcG : Gd gc := HH.out.gF gc
  have hgcB : u2.heap[gc]? = some (.cells #[.slice none 0 0, .int .i64 most] 30 (0, 0)) := by rw [HU2.out, HGC.out]; exact heap_alloc_new u1 _
  have hst2 : ∀ (i : Nat) (x : St4), sts[i]? = some x → x.ok (fun b => b < u2.heap.size) u2 := fun i x hx => st4_bl hb2 (HST.out i x hx)
  have hrow2 : ∀ (i : Nat) (x : St4), sts[i]? = some x → u2.rangeAt bst (i * 2) x.cells := fun i x hx => by
    have h0 := HROW.out i x hx
    exact hb2.range (World.block_lt_of_cell? u1 ⟨bst, i * 2 + 0, none⟩ (h0 0 _ rfl)) h0
  have hmc0 := merge_callsV (Gd := Gd) (F := F1) (v := u2) (sts := sts) (A := A') (bst := bst) (capS := capS) (sb := sb) (so := so) (kc := kc) hgl (fun b _ => HH.out.gF b) (hk2.kinds HH.out.emp HH.out.kinds) (by rw [HMAP.out]; exact HF.out) (fun x hx => HH.out.z3 (strm x) (by rw [← HMAP.out]; exact List.mem_map_of_mem hx)) HA0.out hst2 hrow2
  have HGV := Lib.hid hgcv
  have HGB := Lib.hid hgcB
  have HB2 := Lib.hid hb2
  have HK2 := Lib.hid hk2
  clear hb2 hk2 hgcv hgcB hst2 hrow2
  have hmc : CallsV Vh Tryz.prog Gd 16 #[.slice A' sts.length capS] F1 u2 fun F' z v' => ∃ v1, Bl u2.heap.size u2 v1 ∧ MergeRes F1 v1 (L.flatMap fun x => x.ms) F' z v' := callsV_mono hmc0 fun F' z v' hR => by
    rcases hR with ⟨h0, _⟩ | ⟨_, h1⟩
    · rw [HMAP.out] at h0
      exact absurd HE.out h0
    · rw [msAll_flat, HMAP.out] at h1
      exact h1
  have hcons : Cons u2 gc 0 (.slice none 0 0) [] (most : Int) := ⟨HGB.out, ⟨by simp [cellsL], .inl ⟨rfl, rfl⟩⟩⟩
  have hec := each_good hgl gc most hgcG (heap_lt HGB.out) hgcF hcons _ (by rw [flat_len]; exact HF.out.2) (by omega) hmc
  clear hmc0 hmc hcons
  (refine wpV_seq ?_)
  (refine wpV_region ?_; simp only [List.size_toArray, List.length_cons, List.length_nil, Nat.reduceAdd, Nat.zero_add, List.range, List.range.loop])
  (refine opsV_op_k rfl (by rfl) (fun B hn => opsH hn hgl (by first | rfl | kernel_rfl)) ?_; intro τ p K hK; go_simp; refine hK _ _ ?_; clear hK K p τ; (try walk_nrm))
  (refine opsV_op_k rfl (by rfl) (fun B hn => opsH hn hgl (by first | rfl | kernel_rfl)) ?_; intro τ p K hK; go_simp; refine hK _ _ ?_; clear hK K p τ; (try walk_nrm))
  refine opsV_pureS (x := takeV gc) (es := #[]) rfl (by rfl) (exec_mf (fv := #[.pointer (some ⟨gc, 0, none⟩)]) (cv := #[]) rfl (by walk_nrm <;> rfl) (by simp)) (fun w => by kernel_rfl) (by rfl) (pf_take hgcG) ?_
  walk_nrm
  (refine opsV_enter (R := ?R38) rfl (by rfl) (run_callV rfl rfl Tryz.func6 (by kernel_rfl) rfl) (pf_call hgl (by rfl)) ?hc38 ?hn38; case hc38 => (walk_nrm; exact hec))
  rintro F2 z u3 ⟨ls, w2, hm2, hperm, hasc, hres⟩
  obtain rfl : ls = rmg (L.flatMap fun x => x.ms) := merged HE.out hperm hasc
  obtain ⟨ls, hls⟩ : ∃ ls, ls = rmg (L.flatMap fun x => x.ms) := ⟨_, rfl⟩
  have HLS := Lib.hid hls
  have hc := HC.out
  rw [← hls] at hres hc
  clear hls hperm hasc hec
  have hls3 : ls.length ≤ 300 := by rw [HLS.out, rmg_length, flat_len]; exact HF.out.2
  have hGF2 : ∀ b, Gd b := HH.out.gF
  have hold2 : ∀ b, b < v.heap.size → F2 b → F1 b := fun b hb hf => hm2.old b (Nat.lt_of_lt_of_le hb HK2.out.size) hf
  have hkw : Kept F1 v w2 := HK2.out.mrg hm2
  obtain ⟨x, r, hx, rfl, hrj, hwr, hT⟩ : ∃ (x : M4) (r : Nat), ls[most]? = some x ∧ z = .iface 36 (.pointer (some ⟨r, 0, none⟩)) ∧ RejAt r x u3 ∧ w2.heap.size ≤ r ∧ TkI gc w2.heap.size (ls.take most) most w2 u3 := by
    rcases hres with ⟨h0, _⟩ | h1
    · omega
    · exact h1
  clear hres
  obtain ⟨nn, hnn⟩ : ∃ nn, nn = most := ⟨_, rfl⟩
  have hT : TkI gc w2.heap.size (ls.take nn) most w2 u3 := by rw [hnn]; exact hT
  have hnm : nn ≤ ls.length := by omega
  have hnl : (ls.take nn).length = nn := by rw [List.length_take]; omega
  have hmn : (if (most : Int) < (ls.length : Int) then (most : Int) else (ls.length : Int)) = (nn : Int) := by split <;> omega
  have HNN := Lib.hid hnn
  have hnE : ((nn : Int) == (ls.length : Int)) = false := by rw [beq_eq_false_iff_ne]; omega
  have HX := Lib.hid hx
  have HRJ := Lib.hid hrj
  have HWR := Lib.hid hwr
  clear hnn hx hrj hwr
  have hk3 : Kept F1 v u3 := hkw.tk HGV.out hT
  have hg3 : gc < w2.heap.size := Nat.lt_of_lt_of_le (heap_lt HGB.out) hm2.size
  obtain ⟨vv, hcon, howns⟩ := hT.cons
  obtain ⟨A1, c1, rfl, hrow1⟩ := own_sl howns
  rw [hnl] at hcon
  have hgB3 : u3.heap[gc]? = some (.cells #[.slice A1 nn c1, .int .i64 most] 30 (0, 0)) := hcon
  have HG3 := Lib.hid hgB3
  have HK3 := Lib.hid hk3
  have HM3 := Lib.hid hrow1
  have HKW := Lib.hid hkw
  have HGF2 := Lib.hid hGF2
  have HOLD := Lib.hid hold2
  clear hm2 hkw hk3 hg3 hcon howns hgB3 hrow1 hT hGF2 hold2
  walk_nrm
  (refine opsV_op_k rfl (by rfl) (fun B hn => opsH hn hgl (by first | rfl | kernel_rfl)) ?_; intro τ p K hK; go_simp; refine hK _ _ ?_; clear hK K p τ; (try walk_nrm))
  (refine opsV_nil ?_; (try dsimp only [thenV_normal, inBV_normal]))
  obtain ⟨ti, hti⟩ : ∃ ti, ti = u3.heap.size := ⟨_, rfl⟩
  obtain ⟨u4, hu4⟩ : ∃ u4, u4 = u3.alloc (.cells #[.pointer none] 35) := ⟨_, rfl⟩
  have HU4 := Lib.hid hu4
  have HTI := Lib.hid hti
  clear hu4 hti
  (refine wpV_seq ?_)
  (refine wpV_region ?_; simp only [List.size_toArray, List.length_cons, List.length_nil, Nat.reduceAdd, Nat.zero_add, List.range, List.range.loop])
  (refine opsV_op_k rfl (by rfl) (fun B hn => opsH hn hgl (by first | rfl | kernel_rfl)) ?_; intro τ p K hK; go_simp; refine hK _ _ ?_; clear hK K p τ; (try walk_nrm))
  rw [← HU4.out, ← HTI.out]
  (refine opsV_nil ?_; (try dsimp only [thenV_normal, inBV_normal]))
  obtain ⟨tr, htr⟩ : ∃ tr, tr = u4.heap.size := ⟨_, rfl⟩
  obtain ⟨u5, hu5⟩ : ∃ u5, u5 = u4.alloc (.cells #[.pointer none] 36) := ⟨_, rfl⟩
  have HU5 := Lib.hid hu5
  have HTR := Lib.hid htr
  clear hu5 htr
  (refine wpV_seq ?_)
  (refine wpV_region ?_; simp only [List.size_toArray, List.length_cons, List.length_nil, Nat.reduceAdd, Nat.zero_add, List.range, List.range.loop])
  (refine opsV_op_k rfl (by rfl) (fun B hn => opsH hn hgl (by first | rfl | kernel_rfl)) ?_; intro τ p K hK; go_simp; refine hK _ _ ?_; clear hK K p τ; (try walk_nrm))
  rw [← HU5.out, ← HTR.out]
  (refine opsV_nil ?_; (try dsimp only [thenV_normal, inBV_normal]))
  have hb5 : Bl u3.heap.size u3 u5 := by rw [HU5.out, HU4.out]; exact ((Bl.refl _ _).alloc (Nat.le_refl _) _).alloc (by simp) _
  have htb4 : u4.heap[ti]? = some (.cells #[.pointer none] 35 (0, 0)) := by rw [HU4.out, HTI.out]; exact heap_alloc_new u3 _
  have htb5 : u5.heap[ti]? = some (.cells #[.pointer none] 35 (0, 0)) := by rw [HU5.out]; exact (Below.heap_alloc u4 _ ti (heap_lt htb4)).trans htb4
  have hrb5 : u5.heap[tr]? = some (.cells #[.pointer none] 36 (0, 0)) := by rw [HU5.out, HTR.out]; exact heap_alloc_new u4 _
  have hti_tr : ti < tr := by rw [HTR.out]; exact heap_lt htb4
  have hk5 : Kept F1 v u5 := HK3.out.bl hb5
  have hrow5 := (hk5.srow HH.out.emp HH.out.row).more hk5.size
  have hchk := chk_go (F := F2) (cap := cap) hgl hrow5 HH.out.len HF.out HH.out.z3
  rw [HE.out] at hchk
  have HB5 := Lib.hid hb5
  have HT5 := Lib.hid htb5
  have HR5 := Lib.hid hrb5
  have HK5 := Lib.hid hk5
  have HLT := Lib.hid hti_tr
  clear hb5 htb4 htb5 hrb5 hk5 hrow5 hti_tr
  (refine wpV_seq ?_)
  (refine wpV_seq ?_)
  (refine wpV_region ?_; simp only [List.size_toArray, List.length_cons, List.length_nil, Nat.reduceAdd, Nat.zero_add, List.range, List.range.loop])
  (refine opsV_op_k rfl (by rfl) (fun B hn => opsH hn hgl (by first | rfl | kernel_rfl)) ?_; intro τ p K hK; go_simp; refine hK _ _ ?_; clear hK K p τ; (try walk_nrm))
  (refine opsV_enter (R := ?R53) rfl (by rfl) (run_callV rfl rfl Tryz.func8 (by kernel_rfl) rfl) (pf_call hgl (by rfl)) ?hc53 ?hn53; case hc53 => (walk_nrm; exact hchk))
  rintro F3 z u6 ⟨rfl, rfl, hb6⟩
  have hk6 : Kept F1 v u6 := HK5.out.bl hb6
  have hb36 : Bl u3.heap.size u3 u6 := HB5.out.trans (hb6.mono HB5.out.size)
  have htb6 : u6.heap[ti]? = some (.cells #[.pointer none] 35 (0, 0)) := (hb6.block ti (heap_lt HT5.out)).trans HT5.out
  have hrb6 : u6.heap[tr]? = some (.cells #[.pointer none] 36 (0, 0)) := (hb6.block tr (heap_lt HR5.out)).trans HR5.out
  have hrow6 := (hk6.srow HH.out.emp HH.out.row).more hk6.size
  have hmg := mrg_go (F := F3) (cap := cap) hgl hrow6 HH.out.len HF.out HH.out.z4
  rw [← HLS.out] at hmg
  have HK6 := Lib.hid hk6
  have HB36 := Lib.hid hb36
  have HT6 := Lib.hid htb6
  have HR6 := Lib.hid hrb6
  clear hk6 hb6 hb36 htb6 hrb6 hchk hrow6
  walk_nrm
  (refine opsV_op_k rfl (by rfl) (fun B hn => opsH hn hgl (by first | rfl | kernel_rfl)) ?_; intro τ p K hK; go_simp; refine hK _ _ ?_; clear hK K p τ; (try walk_nrm))
  (refine opsV_nil ?_; (try dsimp only [thenV_normal, inBV_normal]))
  (refine wpV_seq ?_)
  (refine wpV_region ?_; simp only [List.size_toArray, List.length_cons, List.length_nil, Nat.reduceAdd, Nat.zero_add, List.range, List.range.loop])
  (refine opsV_op_k rfl (by rfl) (fun B hn => opsH hn hgl (by first | rfl | kernel_rfl)) ?_; intro τ p K hK; go_simp; refine hK _ _ ?_; clear hK K p τ; (try walk_nrm))
  (refine opsV_op_k rfl (by rfl) (fun B hn => opsH hn hgl (by first | rfl | kernel_rfl)) ?_; intro τ p K hK; go_simp; refine hK _ _ ?_; clear hK K p τ; (try walk_nrm))
  (refine opsV_nil ?_; (try dsimp only [thenV_normal, inBV_normal]))
  (refine wpV_cond_f rfl ?_)
  (refine wpV_skip ?_; (try dsimp only [thenV_normal, inBV_normal]))
  (refine wpV_seq ?_)
  (refine wpV_region ?_; simp only [List.size_toArray, List.length_cons, List.length_nil, Nat.reduceAdd, Nat.zero_add, List.range, List.range.loop])
  (refine opsV_op_k rfl (by rfl) (fun B hn => opsH hn hgl (by first | rfl | kernel_rfl)) ?_; intro τ p K hK; go_simp; refine hK _ _ ?_; clear hK K p τ; (try walk_nrm))
  (refine opsV_enter (R := ?R66) rfl (by rfl) (run_callV rfl rfl Tryz.func11 (by kernel_rfl) rfl) (pf_call hgl (by rfl)) ?hc66 ?hn66; case hc66 => (walk_nrm; exact hmg))
  rintro F4 z u7 ⟨rfl, hout, hb7⟩
  obtain ⟨A3, c3, rfl, hlc, _, hrow3⟩ := hout.sl
  have hb37 : Bl u3.heap.size u3 u7 := HB36.out.trans (hb7.mono HB36.out.size)
  have hk7 : Kept F1 v u7 := HK6.out.bl hb7
  have htb7 : u7.heap[ti]? = some (.cells #[.pointer none] 35 (0, 0)) := (hb7.block ti (heap_lt HT6.out)).trans HT6.out
  have hrb7 : u7.heap[tr]? = some (.cells #[.pointer none] 36 (0, 0)) := (hb7.block tr (heap_lt HR6.out)).trans HR6.out
  have hgB7 : u7.heap[gc]? = some (.cells #[.slice A1 nn c1, .int .i64 most] 30 (0, 0)) := (hb37.block gc (heap_lt HG3.out)).trans HG3.out
  have hrow1 : MRow u7 u7.heap.size A1 (ls.take nn) := mrow_bl HM3.out hb37
  have hc0 := cell_of_row u7 gc 0 _ _ _ hgB7
  have hc1 := cell_of_row u7 gc 1 _ _ _ hgB7
  simp only [List.getElem?_toArray, List.getElem?_cons_zero, List.getElem?_cons_succ] at hc0 hc1
  have hstep : ∀ a0 : Act, a0.tmps[7]? = some (.pointer (some ⟨gc, 0, none⟩)) → a0.tmps[12]? = some (.slice A3 ls.length c3) → a0.tmps[13]? = some (.int .i64 nn) → _ := fun a0 h7 h12 h13 =>
    r13_step (F := F4) (v0 := u7) (gc := gc) (n := nn) (m := ls.length) (c1 := c1) (c3 := c3) (A1 := A1) (A3 := A3) hgl (fun w hw => bl_cell hw hc0) hnm hlc
      (fun w hw => same_go (F := F4) hgl (mrow_bl hrow1 hw) (mrow_bl (hrow3.take nn) hw) (by rw [List.length_take]; omega) (by omega)) a0 h7 h12 h13
  have HOUT := Lib.hid hout
  have HB37 := Lib.hid hb37
  have HK7 := Lib.hid hk7
  have HT7 := Lib.hid htb7
  have HR7 := Lib.hid hrb7
  have HST13 := Lib.hid hstep
  have HLC := Lib.hid hlc
  have H76 := Lib.hid hb7.size
  clear hout hb37 hk7 htb7 hrb7 hgB7 hrow1 hrow3 hc0 hb7 hmg hstep hlc
  walk_nrm
  (refine opsV_op_k rfl (by rfl) (fun B hn => opsH hn hgl (by first | rfl | kernel_rfl)) ?_; intro τ p K hK; go_simp; refine hK _ _ ?_; clear hK K p τ; (try walk_nrm))
  (refine opsV_nil ?_; (try dsimp only [thenV_normal, inBV_normal]))
  (refine wpV_seq ?_)
  (refine wpV_region ?_; simp only [List.size_toArray, List.length_cons, List.length_nil, Nat.reduceAdd, Nat.zero_add, List.range, List.range.loop])
  (refine opsV_op_k rfl (by rfl) (fun B hn => opsH hn hgl (by first | rfl | kernel_rfl)) ?_; intro τ p K hK; go_simp; refine hK _ _ ?_; clear hK K p τ; (try walk_nrm))
  (refine opsV_op_k rfl (by rfl) (fun B hn => opsH hn hgl (by first | rfl | kernel_rfl)) ?_; intro τ p K hK; go_simp; refine hK _ _ ?_; clear hK K p τ; (try walk_nrm))
  (refine opsV_op_k rfl (by rfl) (fun B hn => opsH hn hgl (by first | rfl | kernel_rfl)) ?_; intro τ p K hK; go_simp; refine hK _ _ ?_; clear hK K p τ; (try walk_nrm))
  (refine opsV_op_k rfl (by rfl) (fun B hn => opsH hn hgl (by first | rfl | kernel_rfl)) ?_; intro τ p K hK; go_simp; refine hK _ _ ?_; clear hK K p τ; (try walk_nrm))
  (refine opsV_op_k rfl (by rfl) (fun B hn => opsH hn hgl (by first | rfl | kernel_rfl)) ?_; intro τ p K hK; go_simp; refine hK _ _ ?_; clear hK K p τ; (try walk_nrm))
  (refine opsV_op_k rfl (by rfl) (fun B hn => opsH hn hgl (by first | rfl | kernel_rfl)) ?_; intro τ p K hK; go_simp; refine hK _ _ ?_; clear hK K p τ; (try walk_nrm))
  refine opsV_pureS (s := (Builtin.min_ #[3, 3] 3 #[.int .i64 ls.length, .int .i64 most]).bind fun z => .pure (.value z)) (x := .int .i64 (if (most : Int) < (ls.length : Int) then (most : Int) else (ls.length : Int))) (es := #[]) rfl (by rfl) (exec_min rfl (by walk_nrm <;> rfl)) (fun w => by kernel_rfl) (by rfl) (.inr (.int _ _)) ?_
  rw [show (if (most : Int) < (ls.length : Int) then (most : Int) else (ls.length : Int)) = (nn : Int) from hmn]
  walk_nrm
  (refine opsV_op_k rfl (by rfl) (fun B hn => opsH hn hgl (by first | rfl | kernel_rfl)) ?_; intro τ p K hK; go_simp; refine hK _ _ ?_; clear hK K p τ; (try walk_nrm))
  (refine opsV_nil ?_; (try dsimp only [thenV_normal, inBV_normal]))
  (refine wpV_seq ?_)
  (refine wpV_seq ?_)
  refine wpV_any (ops := ops13G) (Y := fun i z _ => Z13 gc nn ls.length A1 A3 c1 c3 i z) (S := UR u7) (by kernel_rfl) (by kernel_rfl) (by kernel_rfl) (by kernel_rfl) (Bl.refl _ _) (HST13.out _ (by rfl) (by rfl) (by rfl)) (fun L a u8 hL hJ => ?_)
  dsimp only [thenV_normal]
  have hb8 : Bl u7.heap.size u7 u8 := hJ.s
  have h80 := hJ.val' (j := 8) (s := 80) (by kernel_rfl) (hL 8 (of_decide_eq_true (by kernel_rfl)))
  obtain ⟨f, hf80, ea⟩ := hJ.act (ds := [72, 73, 74, 75, 76, 77, 78, 79, 80]) (by kernel_rfl) (by rfl)
  have hv80 : f 80 = .bool false := (hf80 80).trans h80
  have hk8 : Kept F1 v u8 := HK7.out.bl hb8
  have htb8 : u8.heap[ti]? = some (.cells #[.pointer none] 35 (0, 0)) := (hb8.block ti (heap_lt HT7.out)).trans HT7.out
  have hrb8 : u8.heap[tr]? = some (.cells #[.pointer none] 36 (0, 0)) := (hb8.block tr (heap_lt HR7.out)).trans HR7.out
  have HB8 := Lib.hid hb8
  have HK8 := Lib.hid hk8
  have HT8 := Lib.hid htb8
  have HR8 := Lib.hid hrb8
  clear hJ h80 hL hf80 hb8 hk8 htb8 hrb8
  subst ea
  simp only [List.foldl_cons, List.foldl_nil]
  walk_nrm
  rw [hv80]
  (refine wpV_cond_f rfl ?_)
  (refine wpV_skip ?_; (try dsimp only [thenV_normal, inBV_normal]))
  (refine wpV_seq ?_)
  (refine wpV_seq ?_)
  (refine wpV_region ?_; simp only [List.size_toArray, List.length_cons, List.length_nil, Nat.reduceAdd, Nat.zero_add, List.range, List.range.loop])
  (refine opsV_op_k rfl (by rfl) (fun B hn => opsH hn hgl (by first | rfl | kernel_rfl)) ?_; intro τ p K hK; go_simp; refine hK _ _ ?_; clear hK K p τ; (try walk_nrm))
  (refine opsV_op_k rfl (by rfl) (fun B hn => opsH hn hgl (by first | rfl | kernel_rfl)) ?_; intro τ p K hK; go_simp; refine hK _ _ ?_; clear hK K p τ; (try walk_nrm))
  (refine opsV_op_k rfl (by rfl) (fun B hn => opsH hn hgl (by first | rfl | kernel_rfl)) ?_; intro τ p K hK; go_simp; refine hK _ _ ?_; clear hK K p τ; (try walk_nrm))
  (refine opsV_op_k rfl (by rfl) (fun B hn => opsH hn hgl (by first | rfl | kernel_rfl)) ?_; intro τ p K hK; go_simp; refine hK _ _ ?_; clear hK K p τ; (try walk_nrm))
  (refine opsV_nil ?_; (try dsimp only [thenV_normal, inBV_normal]))
  (refine wpV_cond_f rfl ?_)
  have hk8 := HK8.out
  obtain ⟨hxm, u, hxs, hu⟩ := msg_small HF.out HE.out (by rw [← HLS.out]; exact HX.out)
  have hx : ls[nn]? = some x := by rw [HNN.out]; exact HX.out
  obtain ⟨b3, cap3, he3, hb36, _, _, _, hrx7⟩ := out_row HOUT.out hx
  cases he3
  have hnlt : nn < ls.length := (List.getElem?_eq_some_iff.1 hx).1
  have hrx : RowX b3 nn x u8 := ⟨bl_cell HB8.out hrx7.d0, bl_cell HB8.out hrx7.d1, bl_cell HB8.out hrx7.d2, bl_cell HB8.out hrx7.d3⟩
  have hrj : RejAt r x u8 := (HRJ.out.bl HB37.out).bl HB8.out
  have hr3 : r < u3.heap.size := World.block_lt_of_cell? u3 ⟨r, 0, none⟩ HRJ.out.c0
  have hti3 := HTI.out
  have hlt := HLT.out
  have hne : r ≠ tr := by omega
  have hne3 : b3 ≠ tr := by have := heap_lt HR6.out; omega
  have hvr : v.heap.size ≤ r := Nat.le_trans HKW.out.size HWR.out
  have hgr : Gd r := HH.out.gF r
  have htrv : v.heap.size ≤ tr := by have := HK3.out.size; omega
  have hAs := asR_go (F := F4) hgl HH.out.g6 (r := r) (t := tr) (hk8.errT HH.out.emp HH.out.errT) HR8.out
  have hstep : ∀ a0 : Act, a0.tmps[8]? = some (.iface 36 (.pointer (some ⟨r, 0, none⟩))) → a0.tmps[9]? = some (.pointer (some ⟨ti, 0, none⟩)) → a0.tmps[10]? = some (.pointer (some ⟨tr, 0, none⟩)) → a0.tmps[12]? = some (.slice (some ⟨b3, 0, none⟩) ls.length c3) → a0.tmps[13]? = some (.int .i64 nn) → _ := fun a0 h8 h9 h10 h12 h13 =>
    r18_step (F := F4) (w0 := u8) (r := r) (tr := tr) (ti := ti) (b3 := b3) (n := nn) (m := ls.length) (c3 := c3) (x := x) hgl HH.out.g6 hgr hrj hne hrx hne3 hnlt hls3 u hxs hu hxm (fun w hw => HH.out.tab' (hk8.pa htrv hw)) hAs
      (fun w hw => asM_go (F := F4) hgl HH.out.g6 ((hk8.pa htrv hw).errT HH.out.emp HH.out.errT) (hw.rej hrj hne).c4) a0 h8 h9 h10 h12 h13
  have HST18 := Lib.hid hstep
  have HTRV := Lib.hid htrv
  clear hstep hAs hk8 hxs hxm hu hx hrx hrj hr3 hne hne3 hvr hgr htrv hrx7 hti3 hlt hb36
  (refine wpV_seq ?_)
  refine wpV_any (ops := ops18G) (Y := fun i z w => Z18 r tr ti b3 nn ls.length c3 x i z ∧ PAF i u8 tr r w) (S := U18 u8) (by kernel_rfl) (by kernel_rfl) (by kernel_rfl) (by kernel_rfl) (fun _ => rfl) (HST18.out _ (by rfl) (by rfl) (by rfl) (by rfl) (by rfl)) (fun L a u9 hL hJ => ?_)
  dsimp only [thenV_normal]
  have h118 := hJ.val' (j := 31) (s := 118) (by kernel_rfl) (hL 31 (of_decide_eq_true (by kernel_rfl)))
  have hpa9 : PA u8 tr r u9 := h118.2 (by omega)
  obtain ⟨f9, hf118, ea⟩ := hJ.act (ds := [87, 88, 89, 90, 91, 92, 93, 94, 95, 96, 97, 98, 99, 100, 101, 102, 103, 104, 105, 106, 107, 108, 109, 110, 111, 112, 113, 114, 115, 116, 117, 118]) (by kernel_rfl) (by rfl)
  have hv118 : f9 118 = .bool false := (hf118 118).trans h118.1
  have hk9 : Kept F1 v u9 := HK8.out.pa HTRV.out hpa9
  have htb9 : u9.heap[ti]? = some (.cells #[.pointer none] 35 (0, 0)) := (hpa9.keep ti (heap_lt HT8.out) (by have := HLT.out; omega)).trans HT8.out
  have HK9 := Lib.hid hk9
  have HT9 := Lib.hid htb9
  clear hJ h118 hL hf118 hpa9 hk9 htb9
  subst ea
  simp only [List.foldl_cons, List.foldl_nil]
  walk_nrm
  rw [hv118]
  (refine wpV_cond_f rfl ?_)
  (refine wpV_skip ?_; (try dsimp only [thenV_normal, inBV_normal]))
  have htv : v.heap.size ≤ ti := by rw [HTI.out]; exact HK3.out.size
  (refine wpV_seq ?_)
  (refine wpV_region ?_; simp only [List.size_toArray, List.length_cons, List.length_nil, Nat.reduceAdd, Nat.zero_add, List.range, List.range.loop])
  (refine opsV_op_k rfl (by rfl) (fun B hn => opsH hn hgl (by first | rfl | kernel_rfl)) ?_; intro τ p K hK; go_simp; refine hK _ _ ?_; clear hK K p τ; (try walk_nrm))
  (refine opsV_enter (R := ?R98) rfl (by rfl) (run_callV rfl rfl Tryz.func6 (by kernel_rfl) rfl) (pf_call hgl (by rfl)) ?hc98 ?hn98; case hc98 => (walk_nrm; exact each_nil hgl _))
  rintro F5 z u10 ⟨rfl, r2, rfl, hr2, hrs2, hb10⟩
  have hk10 : Kept F1 v u10 := HK9.out.bl hb10
  have htb10 : u10.heap[ti]? = some (.cells #[.pointer none] 35 (0, 0)) := (hb10.block ti (heap_lt HT9.out)).trans HT9.out
  have hrt : r2 ≠ ti := by have := heap_lt HT9.out; omega
  have hasI := asI_go (F := F5) hgl HH.out.g6 (r := r2) (t := ti) (hk10.errT HH.out.emp HH.out.errT) htb10
  have HK10 := Lib.hid hk10
  have HR10 := Lib.hid hr2
  clear hk10 hr2 hrs2 hb10 htb10
  walk_nrm
  (refine opsV_op_k rfl (by rfl) (fun B hn => opsH hn hgl (by first | rfl | kernel_rfl)) ?_; intro τ p K hK; go_simp; refine hK _ _ ?_; clear hK K p τ; (try walk_nrm))
  (refine opsV_nil ?_; (try dsimp only [thenV_normal, inBV_normal]))
  (refine wpV_seq ?_)
  (refine wpV_region ?_; simp only [List.size_toArray, List.length_cons, List.length_nil, Nat.reduceAdd, Nat.zero_add, List.range, List.range.loop])
  (refine opsV_op_k rfl (by rfl) (fun B hn => opsH hn hgl (by first | rfl | kernel_rfl)) ?_; intro τ p K hK; go_simp; refine hK _ _ ?_; clear hK K p τ; (try walk_nrm))
  (refine opsV_op_k rfl (by rfl) (fun B hn => opsH hn hgl (by first | rfl | kernel_rfl)) ?_; intro τ p K hK; go_simp; refine hK _ _ ?_; clear hK K p τ; (try walk_nrm))
  (refine opsV_enter (R := ?R105) rfl (by rfl) (run_callV rfl rfl Tryz.func9 (by kernel_rfl) rfl) (pf_call hgl (by rfl)) ?hc105 ?hn105; case hc105 => (walk_nrm; exact hasI))
  rintro F6 z u11 ⟨rfl, rfl, hpa⟩
  have hk11 : Kept F1 v u11 := HK10.out.pa htv hpa
  have hc1 := hpa.at_
  have hc2 := hpa.cell HR10.out hrt
  have hkn := known_callsV (Gd := Gd) (F := F6) (v := u11) hgl (fun b _ => HGF2.out b) (hk11.kinds HH.out.emp HH.out.kinds)
  have HK11 := Lib.hid hk11
  clear hk11 hpa hasI
  walk_nrm
  (refine opsV_op_k rfl (by rfl) (fun B hn => opsH hn hgl (by first | rfl | kernel_rfl)) ?_; intro τ p K hK; go_simp; refine hK _ _ ?_; clear hK K p τ; (try walk_nrm))
  (refine opsV_op_k rfl (by rfl) (fun B hn => opsH hn hgl (by first | rfl | kernel_rfl)) ?_; intro τ p K hK; go_simp; refine hK _ _ ?_; clear hK K p τ; (try walk_nrm))
  (refine opsV_op_k rfl (by rfl) (fun B hn => opsH hn hgl (by first | rfl | kernel_rfl)) ?_; intro τ p K hK; go_simp; refine hK _ _ ?_; clear hK K p τ; (try walk_nrm))
  (refine opsV_op_k rfl (by rfl) (fun B hn => opsH hn hgl (by first | rfl | kernel_rfl)) ?_; intro τ p K hK; go_simp; refine hK _ _ ?_; clear hK K p τ; (try walk_nrm))
  (refine opsV_op_k rfl (by rfl) (fun B hn => opsH hn hgl (by first | rfl | kernel_rfl)) ?_; intro τ p K hK; go_simp; refine hK _ _ ?_; clear hK K p τ; (try walk_nrm))
  (refine opsV_op_k rfl (by rfl) (fun B hn => opsH hn hgl (by first | rfl | kernel_rfl)) ?_; intro τ p K hK; go_simp; refine hK _ _ ?_; clear hK K p τ; (try walk_nrm))
  (refine opsV_op_k rfl (by rfl) (fun B hn => opsH hn hgl (by first | rfl | kernel_rfl)) ?_; intro τ p K hK; go_simp; refine hK _ _ ?_; clear hK K p τ; (try walk_nrm))
  (refine opsV_op_k rfl (by rfl) (fun B hn => opsH hn hgl (by first | rfl | kernel_rfl)) ?_; intro τ p K hK; go_simp; refine hK _ _ ?_; clear hK K p τ; (try walk_nrm))
  (refine opsV_enter (R := ?R114) rfl (by rfl) (run_callV rfl rfl Tryz.func5 (by kernel_rfl) rfl) (pf_call hgl (by rfl)) ?hc114 ?hn114; case hc114 => (walk_nrm; exact hkn))
  rintro F7 z u12 ⟨rfl, hm⟩
  have HM := Lib.hid hm
  clear hm hkn
  walk_nrm
  (refine opsV_op_k rfl (by rfl) (fun B hn => opsH hn hgl (by first | rfl | kernel_rfl)) ?_; intro τ p K hK; go_simp; refine hK _ _ ?_; clear hK K p τ; (try walk_nrm))
  (refine opsV_op_k rfl (by rfl) (fun B hn => opsH hn hgl (by first | rfl | kernel_rfl)) ?_; intro τ p K hK; go_simp; refine hK _ _ ?_; clear hK K p τ; (try walk_nrm))
  (refine opsV_nil ?_; (try dsimp only [thenV_normal, inBV_normal]))
  (refine wpV_ret ?_; (try dsimp only [thenV_ret, inBV_ret]))
  exact ⟨.inr rfl, rfl, _, resultsC_tmp (by rfl) _, rfl, kept_end HK11.out HM.out HOLD.out, fun b hb hf => HOLD.out b hb (HM.out.old b (Nat.lt_of_lt_of_le hb HK11.out.size) hf)⟩
end
end Go.Proofs.YtmmjlngbiilagaaGreatDoor

/-
  THE BEGINNING: views, pending places and loops lie dead in v; every value is good; nothing is foreign.
-/
namespace Go.Proofs.YtmmjlngbiilagaaGreatDoor
open Go Go.Conc

theorem pf_all {G : Nat → Prop} (hG : ∀ b, G b) : ∀ v : Value, PF G v
  | .bool b => .bool b
  | .int k n => .int k n
  | .float k n => .float k n
  | .complex k a b => .complex k a b
  | .string s => .string s
  | .pointer none => .nilp
  | .pointer (some _) => .ptr (hG _)
  | .slice none l c => .nils l c
  | .slice (some _) l c => .slice l c (hG _)
  | .map r => .map r
  | .chan r => .chan r
  | .func f first captured => .func f (fun x hx => by have := Array.sizeOf_lt_of_mem hx; exact pf_all hG x) (fun x hx => by have := Array.sizeOf_lt_of_mem hx; exact pf_all hG x)
  | .nilFunc => .nilFunc
  | .iface t v => .iface t (pf_all hG v)
  | .nilIface => .nilIface
  | .agg cs => .agg fun x hx => by have := Array.sizeOf_lt_of_mem hx; exact pf_all hG x
  | .tuple cs => .tuple fun x hx => by have := Array.sizeOf_lt_of_mem hx; exact pf_all hG x
termination_by v => SizeOf.sizeOf v
decreasing_by all_goals simp_wf; omega

def dulled (w : World) : World := { w with heap := w.heap.mapIdx fun b o => deadO b o }
section
variable {w : World}
theorem dulled_at (b : Nat) : (dulled w).heap[b]? = (w.heap[b]?).map (deadO b) := by simp [dulled, Array.getElem?_mapIdx]
theorem dulled_cell {a : Addr} {x : Value} (h : w.cell? a = some x) : (dulled w).cell? a = some x := by
  simp only [World.cell?, dulled_at] at h ⊢
  cases hb : w.heap[a.block]? with
  | none => rw [hb] at h; cases h
  | some o =>
    rw [hb] at h
    cases o with
    | cells c t fz => exact h
    | _ => cases h
theorem dulled_pois {K : Cfg} (hgr : K.gr = true) (hG : ∀ b, K.G b) (hB : K.B ≤ w.heap.size) (ho : ∀ b t o, w.heap[b]? = some o → K.odds b t o) : Pois K (fun _ => False) (dulled w) w where
  size := by simp [dulled]
  os := rfl
  output := rfl
  same b _ hd := by
    have hd0 := hd 0
    rw [dulled_at] at hd0 ⊢
    cases hw : w.heap[b]? with
    | none => rfl
    | some o =>
      rw [hw] at hd0
      by_cases h : oddO o
      · exact absurd (by rw [Option.map_some, deadO_odd h]) hd0
      · rw [Option.map_some, deadO_id h]
  odd b t e := by
    rw [dulled_at] at e
    obtain ⟨o, hw, e2⟩ := Option.map_eq_some_iff.1 e
    refine ⟨id, o, hw, ?_, ho b t o hw⟩
    by_cases h : oddO o
    · exact h
    · rw [deadO_id h] at e2
      subst e2
      exact trivial
  foreign := fun _ h => h.elim
  frozen := fun _ h => h.elim
  tame b o ho' := by
    rw [dulled_at] at ho'
    obtain ⟨o', hw, rfl⟩ := Option.map_eq_some_iff.1 ho'
    by_cases h : oddO o'
    · exact .inr ⟨hgr, 0, deadO_odd h⟩
    · rw [deadO_id h]
      refine .inl ?_
      cases o' with
      | view => exact absurd trivial h
      | pending => exact absurd trivial h
      | loop => exact absurd trivial h
      | cells c t fz => exact fun x _ => .inr (pf_all hG x)
      | number a l => exact .inr (hG _)
      | map es c => exact ⟨hgr, fun e _ => ⟨.inr (pf_all hG _), .inr (pf_all hG _)⟩⟩
      | _ => exact hgr
  row := fun _ _ _ h => h.elim
  own := fun _ _ _ => .inl hgr
  fb := fun _ h => h.elim
  disj := fun h => by rw [hgr] at h; cases h
  sz := by simpa [dulled] using hB
end

/-- All blocks are good; the world of the beginning. -/
def gbAll (W : World) : GB := ⟨fun _ => True, fun _ => False, W⟩
/-- THE RUN OF A CALL THAT WAS WALKED IN THE DULLED WORLD. -/
theorem top_run {V P : Program} {f : FuncId} {args : Array Value} {W : World} {R : (Nat → Prop) → Value → World → Prop} {Q : Value → World → Prop}
    (h : TopV V P (gbAll W) f args (fun _ => False) (dulled W) R)
    (hR : ∀ F' z v', R F' z v' → Q z v' ∧ v'.os = W.os ∧ v'.output = W.output ∧ W.heap.size ≤ v'.heap.size ∧ ∀ b, b < W.heap.size → v'.heap[b]? = (dulled W).heap[b]? ∧ ¬ F' b) (hQ : ∀ z v' w', Q z v' → Q z w') :
    ∃ M last o w' t', runNT P (M + 1) (solo (G (Frame.enter P f args .normal) []) W) #[] = (.ended o w', t') ∧ runN P M (solo (G (Frame.enter P f args .normal) []) W) = .next last ∧ step P last = .ended o w' ∧
      Conc.Good P (fun z w' => Q z w' ∧ w'.tape = W.tape ∧ w'.os = W.os ∧ w'.output = W.output ∧ W.heap.size ≤ w'.heap.size ∧ ∀ b, b < W.heap.size → w'.heap[b]? = W.heap[b]?) last o w' t' := by
  have hp : Pois (cfgV V P (gbAll W) W.heap.size) (fun _ => False) (dulled W) W := dulled_pois rfl (fun _ => trivial) (Nat.le_refl _) fun b t o ho => ho
  have hF := h ⟨fun z w' => Q z w' ∧ w'.tape = W.tape ∧ w'.os = W.os ∧ w'.output = W.output ∧ W.heap.size ≤ w'.heap.size ∧ ∀ b, b < W.heap.size → w'.heap[b]? = W.heap[b]?, fun _ => False, W⟩ (fun x _ => .inr (pf_all (fun _ => trivial) x)) (fun F' z v' B w' hr hp' hkp => by
    obtain ⟨h1, h2, h3, h4, h5⟩ := hR F' z v' hr
    refine ⟨hQ z v' w' h1, hkp.tape, hp'.os.symm.trans h2, hp'.output.symm.trans h3, by rw [← hp'.size]; exact h4, fun b hb => ?_⟩
    obtain ⟨h6, h7⟩ := h5 b hb
    by_cases hd : ∃ t, v'.heap[b]? = some (deadV b t)
    · obtain ⟨t, e⟩ := hd
      obtain ⟨_, o, h8, _, h9⟩ := hp'.odd b t e
      exact h8.trans (show W.heap[b]? = some o from h9).symm
    · have hnd : ∀ t, v'.heap[b]? ≠ some (deadV b t) := fun t e => hd ⟨t, e⟩
      rw [← hp'.same b h7 hnd, h6]
      exact hp.same b id (fun t e => hnd t (h6.trans e)))
    W.heap.size W (fun _ _ => trivial) hp ⟨fun _ h => h.elim, fun _ h => h.elim, rfl, fun _ h => h.elim, fun _ h => h.elim⟩
  have e : Fm (gbAll W) (fun _ => False) = fun _ => False := by
    funext b
    exact propext ⟨fun h => h.1, False.elim⟩
  rw [e] at hF
  exact fine_run hF
end Go.Proofs.YtmmjlngbiilagaaGreatDoor

/-
  WHAT THE ARGUMENTS HOLD, out of their reading.
-/
namespace Go.Proofs.YtmmjlngbiilagaaGreatDoor
open Go Go.Conc Go.RowKit Go.ChangeShapes Go.WideShapes Go.ChangeAt Go.Joins

theorem list_choose {α : Type} {P : Nat → α → Prop} : ∀ {n : Nat}, (∀ i, i < n → ∃ y, P i y) → ∃ l : List α, l.length = n ∧ ∀ j x, l[j]? = some x → P j x := by
  intro n
  induction n with
  | zero => exact fun _ => ⟨[], rfl, fun j x h => by cases h⟩
  | succ n ih =>
    intro h
    obtain ⟨l, hl, hP⟩ := ih fun i hi => h i (by omega)
    obtain ⟨y, hy⟩ := h n (by omega)
    refine ⟨l ++ [y], by simp [hl], fun j x hx => ?_⟩
    have hj : j < n + 1 := by have := (List.getElem?_eq_some_iff.1 hx).1; simpa [hl] using this
    by_cases e : j < l.length
    · rw [List.getElem?_append_left e] at hx
      exact hP j x hx
    · have ej : j = n := by omega
      subst ej
      rw [List.getElem?_append_right (by omega), hl, Nat.sub_self] at hx
      cases hx
      exact hy
section
variable {H : Type} {enc : TypeId × Value → H} {W : World} {sp : Nat → Bool} {held : Bool}
theorem argUM : Tryz.prog.underlying 49 = some (.struct #[⟨ "Tick", 3, 0, false, "", "", 0⟩, ⟨ "Member", 9, 1, false, "", "", 8⟩, ⟨ "Seq", 3, 2, false, "", "", 24⟩, ⟨ "Payload", 9, 3, false, "", "", 32⟩]) := by kernel_rfl
theorem argUS : Tryz.prog.underlying 58 = some (.struct #[⟨ "Member", 9, 0, false, "", "", 0⟩, ⟨ "Messages", 44, 1, false, "", "", 16⟩]) := by kernel_rfl
theorem argULM : Tryz.prog.underlying 44 = some (.slice 49) := by kernel_rfl
theorem argULS : Tryz.prog.underlying 22 = some (.slice 58) := by kernel_rfl
theorem cellsM : Tryz.prog.cellsOf 49 = 4 := by kernel_rfl
theorem cellsS : Tryz.prog.cellsOf 58 = 2 := by kernel_rfl
theorem cells3 : Tryz.prog.cellsOf 3 = 1 := by kernel_rfl
theorem cells9 : Tryz.prog.cellsOf 9 = 1 := by kernel_rfl
theorem cellsLM : Tryz.prog.cellsOf 44 = 1 := by kernel_rfl
theorem bytesM : Tryz.prog.bytesOf 49 = 48 := by kernel_rfl
theorem bytesS : Tryz.prog.bytesOf 58 = 40 := by kernel_rfl
theorem cells2 {base : Nat} {a : Addr} {c : List Value} (h : W.cells? base a 2 = some c) : ∃ u v, c = [u, v] ∧ W.cell? (a.add 0) = some u ∧ W.cell? (a.add 1) = some v := by
  unfold World.cells? at h
  split at h
  · simp only [List.range_succ, List.range_zero, List.nil_append, List.mapM_cons, List.mapM_nil, List.cons_append] at h
    cases h0 : W.cell? (a.add 0) with
    | none => simp [h0] at h
    | some u =>
      cases h1 : W.cell? (a.add 1) with
      | none => simp [h0, h1] at h
      | some v => simp [h0, h1] at h; exact ⟨u, v, h.symm, rfl, rfl⟩
  · cases h
theorem cells4 {base : Nat} {a : Addr} {c : List Value} (h : W.cells? base a 4 = some c) : ∃ u v x y, c = [u, v, x, y] ∧ W.cell? (a.add 0) = some u ∧ W.cell? (a.add 1) = some v ∧ W.cell? (a.add 2) = some x ∧ W.cell? (a.add 3) = some y := by
  unfold World.cells? at h
  split at h
  · simp only [List.range_succ, List.range_zero, List.nil_append, List.mapM_cons, List.mapM_nil, List.cons_append] at h
    cases h0 : W.cell? (a.add 0) with
    | none => simp [h0] at h
    | some u =>
      cases h1 : W.cell? (a.add 1) with
      | none => simp [h0, h1] at h
      | some v =>
        cases h2 : W.cell? (a.add 2) with
        | none => simp [h0, h1, h2] at h
        | some x =>
          cases h3 : W.cell? (a.add 3) with
          | none => simp [h0, h1, h2, h3] at h
          | some y => simp [h0, h1, h2, h3] at h; exact ⟨u, v, x, y, h.symm, rfl, rfl, rfl, rfl⟩
  · cases h
/-- A message in memory. -/
theorem m_at {a : Addr} {n : Nat} {x : DataW H × List MemPlace} (h : (W.cells? 0 a (Tryz.prog.cellsOf 49)).bind (DataW.trod enc Tryz.prog W 0 sp held n 49) = some x) :
    ∃ y : M4, W.cell? (a.add 0) = some (.int .i64 y.t) ∧ W.cell? (a.add 1) = some (.string y.m) ∧ W.cell? (a.add 2) = some (.int .i64 y.s) ∧ W.cell? (a.add 3) = some (.string y.p) ∧ y.m.size ≤ maxLen := by
  obtain ⟨c, hc, ht⟩ := Option.bind_eq_some_iff.1 h
  rw [cellsM] at hc
  obtain ⟨u0, u1, u2, u3, rfl, h0, h1, h2, h3⟩ := cells4 hc
  obtain ⟨y0, y1, y2, y3, m, rfl, _, f0, f1, f2, f3⟩ := trod_struct4 argUM ht
  rw [show Tryz.prog.cellsOf 3 = 1 from cells3] at f0 f2
  rw [show Tryz.prog.cellsOf 9 = 1 from cells9] at f1 f3
  obtain ⟨k0, e0, _, _⟩ := DataW.trod_int Tryz.underlying3 (show DataW.trod _ _ _ _ _ _ _ 3 [u0] = _ from f0)
  obtain ⟨k1, e1, _, l1⟩ := DataW.trod_string Tryz.underlying9 (show DataW.trod _ _ _ _ _ _ _ 9 [u1] = _ from f1)
  obtain ⟨k2, e2, _, _⟩ := DataW.trod_int Tryz.underlying3 (show DataW.trod _ _ _ _ _ _ _ 3 [u2] = _ from f2)
  obtain ⟨k3, e3, _, _⟩ := DataW.trod_string Tryz.underlying9 (show DataW.trod _ _ _ _ _ _ _ 9 [u3] = _ from f3)
  simp only [List.cons.injEq, and_true] at e0 e1 e2 e3
  subst e0 e1 e2 e3
  exact ⟨⟨k0, k1, k2, k3⟩, h0, h1, h2, h3, l1⟩
theorem add2 (b off i j : Nat) : ((⟨b, off, none⟩ : Addr).add i).add j = ⟨b, off + (i + j), none⟩ := by rw [Addr.add_mid, Addr.add_mid, Nat.add_assoc]
/-- A row of messages. -/
theorem mrow_of {n : Nat} {v : Value} {x : DataW H × List MemPlace} (h : DataW.trod enc Tryz.prog W 0 sp held n 44 [v] = some x) (hz : ∀ k ∈ x.1.weights Tryz.prog 44, k ≤ reachBytes) :
    ∃ (A : Option Addr) (ms : List M4) (cap : Nat), v = .slice A ms.length cap ∧ MRow W W.heap.size A ms ∧ (∀ y ∈ ms, y.m.size ≤ maxLen) ∧ ms.length ≤ 4000000000000 := by
  rcases DataW.trod_slice argULM h with ⟨e, _⟩ | ⟨a, len, cap, elems, rest, n', rfl, e, rfl, _, _, _, hl, hE, _, _⟩
  · cases e
    exact ⟨none, [], 0, rfl, .inl rfl, (fun y hy => by cases hy), Nat.zero_le _⟩
  · cases e
    obtain ⟨ms, hml, hm⟩ := list_choose (n := len) (P := fun j (y : M4) => W.cell? ((a.add (j * 4)).add 0) = some (.int .i64 y.t) ∧ W.cell? ((a.add (j * 4)).add 1) = some (.string y.m) ∧ W.cell? ((a.add (j * 4)).add 2) = some (.int .i64 y.s) ∧ W.cell? ((a.add (j * 4)).add 3) = some (.string y.p) ∧ y.m.size ≤ maxLen) fun i hi => by
      have h1 := hE i hi
      rw [List.getElem?_eq_getElem (by omega)] at h1
      have h2 := m_at h1
      rw [cellsM] at h2
      exact h2
    refine ⟨some a, ms, cap, by rw [hml], ?_, fun y hy => ?_, ?_⟩
    · rcases Nat.eq_zero_or_pos ms.length with h0 | h0
      · exact .inl (List.length_eq_zero_iff.1 h0)
      · obtain ⟨b, off, spot⟩ := a
        have hy0 := (hm 0 ms[0] (List.getElem?_eq_getElem h0)).1
        obtain rfl : spot = none := by simpa [Addr.add] using World.cell?_spot hy0
        refine .inr ⟨b, off, rfl, ?_, fun j y hj => ?_⟩
        · rw [add2] at hy0
          exact World.block_lt_of_cell? W _ hy0
        · obtain ⟨h1, h2, h3, h4, _⟩ := hm j y hj
          rw [add2] at h1 h2 h3 h4
          exact ⟨h1, h2, h3, h4⟩
    · obtain ⟨j, hj⟩ := List.mem_iff_getElem?.1 hy
      exact (hm j y hj).2.2.2.2
    · have := hz ((elems.map (·.1)).length + (rest.map (·.1)).length |>.mul 48) (by
        simp only [DataW.weights, argULM, bytesM]
        exact List.mem_cons_self ..)
      have h2 : (elems.length + rest.length) * 48 ≤ reachBytes := by simpa using this
      have h3 : reachBytes = 140737488351232 := by decide
      omega
/-- A stream in memory. -/
theorem s_at {a : Addr} {n : Nat} {x : DataW H × List MemPlace} (h : (W.cells? 0 a (Tryz.prog.cellsOf 58)).bind (DataW.trod enc Tryz.prog W 0 sp held n 58) = some x) (hz : ∀ k ∈ x.1.weights Tryz.prog 58, k ≤ reachBytes) :
    ∃ s : Strm, W.cell? (a.add 0) = some (.string s.mem) ∧ (∃ A' cap, W.cell? (a.add 1) = some (.slice A' s.ms.length cap) ∧ MRow W W.heap.size A' s.ms) ∧ s.mem.size ≤ maxLen ∧ (∀ y ∈ s.ms, y.m.size ≤ maxLen) ∧ s.ms.length ≤ 4000000000000 := by
  obtain ⟨c, hc, ht⟩ := Option.bind_eq_some_iff.1 h
  rw [cellsS] at hc
  obtain ⟨u0, u1, rfl, h0, h1⟩ := cells2 hc
  obtain ⟨y0, y1, m, rfl, _, f0, f1⟩ := trod_struct2 argUS ht
  rw [show Tryz.prog.cellsOf 9 = 1 from cells9] at f0
  rw [show Tryz.prog.cellsOf 44 = 1 from cellsLM] at f1
  obtain ⟨k0, e0, _, l0⟩ := DataW.trod_string Tryz.underlying9 (show DataW.trod _ _ _ _ _ _ _ 9 [u0] = _ from f0)
  simp only [List.cons.injEq, and_true] at e0
  subst e0
  obtain ⟨A, ms, cap, rfl, hr, hm, hlen⟩ := mrow_of (show DataW.trod _ _ _ _ _ _ _ 44 [u1] = _ from f1) fun k hk => hz k (by
    simp only [DataW.weights, argUS, List.map_cons, List.map_nil, DataW.weightsEach, List.append_nil]
    exact List.mem_append_right _ hk)
  exact ⟨⟨k0, ms⟩, h0, ⟨A, cap, h1, hr⟩, l0, hm, hlen⟩
theorem weightsAll_get {e : TypeId} {P : Program} : ∀ {l : List (DataW H)} {j : Nat} {d : DataW H}, l[j]? = some d → ∀ k ∈ d.weights P e, k ∈ DataW.weightsAll P e l
  | d0 :: l, 0, d, h, k, hk => by
    simp only [List.getElem?_cons_zero, Option.some.injEq] at h
    subst h
    simp only [DataW.weightsAll, List.mem_append]
    exact .inl hk
  | d0 :: l, j + 1, d, h, k, hk => by
    simp only [DataW.weightsAll, List.mem_append]
    exact .inr (weightsAll_get (l := l) (by simpa using h) k hk)
  | [], _, _, h, _, _ => by cases h
/-- The argument. -/
theorem srow_of {n : Nat} {v : Value} {x : DataW H × List MemPlace} (h : DataW.trod enc Tryz.prog W 0 sp held n 22 [v] = some x) (hz : ∀ k ∈ x.1.weights Tryz.prog 22, k ≤ reachBytes) :
    ∃ (A : Option Addr) (L : List Strm) (cap : Nat), v = .slice A L.length cap ∧ SRow W W.heap.size A L ∧ L.length ≤ 4000000000000 ∧ ∀ s ∈ L, s.ms.length ≤ 4000000000000 ∧ s.mem.size ≤ maxLen ∧ ∀ y ∈ s.ms, y.m.size ≤ maxLen := by
  rcases DataW.trod_slice argULS h with ⟨e, _⟩ | ⟨a, len, cap, elems, rest, n', rfl, e, rfl, _, _, _, hl, hE, _, _⟩
  · cases e
    exact ⟨none, [], 0, rfl, .inl rfl, Nat.zero_le _, (fun y hy => by cases hy)⟩
  · cases e
    have hz1 := hz ((elems.map (·.1)).length + (rest.map (·.1)).length |>.mul 40) (by
      simp only [DataW.weights, argULS, bytesS]
      exact List.mem_cons_self ..)
    obtain ⟨L, hml, hm⟩ := list_choose (n := len) (P := fun j (s : Strm) => W.cell? ((a.add (j * 2)).add 0) = some (.string s.mem) ∧ (∃ A' cap, W.cell? ((a.add (j * 2)).add 1) = some (.slice A' s.ms.length cap) ∧ MRow W W.heap.size A' s.ms) ∧ s.mem.size ≤ maxLen ∧ (∀ y ∈ s.ms, y.m.size ≤ maxLen) ∧ s.ms.length ≤ 4000000000000) fun i hi => by
      have h1 := hE i hi
      rw [List.getElem?_eq_getElem (by omega)] at h1
      have h2 := s_at h1 fun k hk => hz k (by
        simp only [DataW.weights, argULS]
        refine List.mem_cons_of_mem _ (List.mem_append_left _ (weightsAll_get (j := i) ?_ k hk))
        rw [List.getElem?_map, List.getElem?_eq_getElem (by omega)]
        rfl)
      rw [cellsS] at h2
      exact h2
    refine ⟨some a, L, cap, by rw [hml], ?_, ?_, fun s hs => ?_⟩
    · rcases Nat.eq_zero_or_pos L.length with h0 | h0
      · exact .inl (List.length_eq_zero_iff.1 h0)
      · obtain ⟨b, off, spot⟩ := a
        have hy0 := (hm 0 L[0] (List.getElem?_eq_getElem h0)).1
        obtain rfl : spot = none := by simpa [Addr.add] using World.cell?_spot hy0
        refine .inr ⟨b, off, rfl, ?_, fun j y hj => ?_⟩
        · rw [add2] at hy0
          exact World.block_lt_of_cell? W _ hy0
        · obtain ⟨h1, ⟨A', c', h2, h3⟩, _⟩ := hm j y hj
          rw [add2] at h1 h2
          exact ⟨h1, A', c', h2, h3⟩
    · have h2 : (elems.length + rest.length) * 40 ≤ reachBytes := by simpa using hz1
      have h3 : reachBytes = 140737488351232 := by decide
      omega
    · obtain ⟨j, hj⟩ := List.mem_iff_getElem?.1 hs
      obtain ⟨_, _, h3, h4, h5⟩ := hm j s hj
      exact ⟨h5, h3, h4⟩
end
section
variable {W : World}
theorem mrow_dulled {B : Nat} {A : Option Addr} {ms : List M4} (h : MRow W B A ms) : MRow (dulled W) B A ms := h.imp id fun ⟨b, o, h1, h2, h3⟩ => ⟨b, o, h1, h2, fun j x hx => by
  obtain ⟨c0, c1, c2, c3⟩ := h3 j x hx
  exact ⟨dulled_cell c0, dulled_cell c1, dulled_cell c2, dulled_cell c3⟩⟩
theorem srow_dulled {B : Nat} {A : Option Addr} {L : List Strm} (h : SRow W B A L) : SRow (dulled W) B A L := h.imp id fun ⟨b, o, h1, h2, h3⟩ => ⟨b, o, h1, h2, fun j x hx => by
  obtain ⟨c0, A', cap, c1, c2⟩ := h3 j x hx
  exact ⟨dulled_cell c0, A', cap, dulled_cell c1, mrow_dulled c2⟩⟩
theorem kinds_dulled {sb so kc : Nat} (h : KindsAt sb so kc W) : KindsAt sb so kc (dulled W) := ⟨fun j x hx => dulled_cell (h.kinds j x hx), fun j x hx => dulled_cell (h.spans j x hx)⟩
theorem pr_global (P : Program) (keep : Nat → Bool) (n : String) : (prunedOf P keep).globalNamed n = P.globalNamed n := rfl
theorem tab_dulled (h : Lib.TabIs Tryz.prog W "internal/strconv.uint64pow10" .u64 Lib.pow10Tab) : Lib.TabIs Vh (dulled W) "internal/strconv.uint64pow10" .u64 Lib.pow10Tab := by
  unfold Lib.TabIs World.var? at h ⊢
  rw [pr_global]
  cases hg : Tryz.prog.globalNamed "internal/strconv.uint64pow10" with
  | none => rw [hg] at h; cases h
  | some g =>
    rw [hg] at h
    simp only [Option.bind_some, dulled_at] at h ⊢
    cases hb : W.heap[g]? with
    | none => rw [hb] at h; cases h
    | some o =>
      rw [hb] at h
      cases o with
      | cells c t fz => exact h
      | _ => cases h
end
end Go.Proofs.YtmmjlngbiilagaaGreatDoor

/-
  WHAT THE LISTED VARIABLES HOLD, out of what the row lays.
-/
namespace Go.Proofs.YtmmjlngbiilagaaGreatDoor
open Go Go.RowKit Go.ChangeShapes Go.WideShapes Go.ChangeAt Go.Joins

section
variable {H : Type} {enc : TypeId × Value → H} {P : Program} {w : World} {base : Nat} {sp : Nat → Bool} {held : Bool}
theorem nilFunc_of_trod {fuel : Nat} {t : TypeId} {ps rs : Array TypeId} {va : Bool} {v : Value} {q : List MemPlace} (ht : P.underlying t = some (.func ps rs va)) (h : DataW.trod enc P w base sp held fuel t [v] = some (.nil, q)) : v = .nilFunc := by
  cases fuel with
  | zero => simp [DataW.trod] at h
  | succ n => cases v <;> simp_all [DataW.trod]
end

def letterName : List UInt8 := [103, 105, 114, 111, 47, 105, 100, 101, 110, 116, 46, 108, 101, 116, 116, 101, 114]
def alnumName : List UInt8 := [103, 105, 114, 111, 47, 105, 100, 101, 110, 116, 46, 97, 108, 112, 104, 97, 110, 117, 109, 101, 114, 105, 99]

section
variable {W : World}
theorem undK142 : Tryz.prog.underlying 180 = some (.slice 192) := by kernel_rfl
theorem undK155 : Tryz.prog.underlying 192 = some (.struct #[⟨ "n", 3, 0, false, "", "giro/ident", 0⟩, ⟨ "is", 190, 1, false, "", "giro/ident", 8⟩]) := by kernel_rfl
/-- A stretch of a class: so many of such a sign. -/
theorem span_at {a : Addr} {n f0 : Nat} {k : Int} {b : UInt8} {r : List UInt8} {x : DataW (List UInt8) × List MemPlace}
    (hone : ((List.range Tryz.prog.funcs.size).filter fun f => (Tryz.prog.funcs[f]?).any (·.name.toUTF8.data.toList == b :: r)) = [f0])
    (h : (W.cells? 0 a (Tryz.prog.cellsOf 192)).bind (DataW.trod (funcToken Tryz.prog) Tryz.prog W 0 (fun _ => true) true n 192) = some x) (hx : x.1 = .agg [.lit (.int .i64 k), .held (b :: r)]) :
    W.cell? (a.add 0) = some (.int .i64 k) ∧ W.cell? (a.add 1) = some (.func (.func f0) #[] #[]) := by
  obtain ⟨c, hc, ht⟩ := Option.bind_eq_some_iff.1 h
  rw [show Tryz.prog.cellsOf 192 = 2 by kernel_rfl] at hc
  obtain ⟨u, v, rfl, hu, hv⟩ := cells2 hc
  obtain ⟨y0, y1, m, rfl, _, h0, h1⟩ := trod_struct2 undK155 ht
  simp only [DataW.agg.injEq, List.cons.injEq, and_true] at hx
  rw [show Tryz.prog.cellsOf 3 = 1 by kernel_rfl] at h0
  rw [show Tryz.prog.cellsOf 190 = 1 by kernel_rfl] at h1
  obtain ⟨k', e1, rfl, _⟩ := DataW.trod_int Tryz.underlying3 (show DataW.trod _ _ _ _ _ _ _ 3 [u] = _ from h0)
  obtain ⟨z, q⟩ := y1
  obtain ⟨hx0, rfl⟩ := hx
  obtain rfl := func_of_trod (f0 := f0) (t := 190) (by kernel_rfl : Tryz.prog.underlying 190 = some (.func #[5] #[4] false)) hone (show DataW.trod _ _ _ _ _ _ _ 190 [v] = _ from h1)
  simp only [DataW.lit.injEq, Lit.int.injEq, true_and] at hx0
  subst hx0
  simp only [List.cons.injEq, and_true] at e1
  subst e1
  exact ⟨hu, hv⟩
theorem kind_struct : Tryz.prog.underlying 183 = some (.struct #[⟨ "shortest", 3, 0, false, "", "giro/ident", 0⟩, ⟨ "spans", 180, 1, false, "", "giro/ident", 8⟩, ⟨ "body", 3, 2, false, "", "giro/ident", 32⟩, ⟨ "check", 181, 3, false, "", "giro/ident", 40⟩]) := by kernel_rfl
theorem kinds_at (h : laidMetH Tryz.prog Rows.gatewayEachRow.laid W) : ∃ sb so kc, KindsAt sb so kc W := by
  obtain ⟨g, t, cs, fuel, p, hg, ht, hv, hd⟩ := laidMetH.funcs (n := "giro/ident.kinds") h (List.mem_cons_of_mem _ (List.mem_cons_of_mem _ (List.mem_cons_of_mem _ (List.mem_cons_of_mem _ (List.mem_cons_self ..)))))
  obtain rfl := Option.some.inj ((show Tryz.prog.globalNamed "giro/ident.kinds" = some 3 by kernel_rfl).symm.trans hg)
  obtain rfl := Option.some.inj ((show (Tryz.prog.globals[3]?).map (·.type) = some 184 by kernel_rfl).symm.trans ht)
  obtain ⟨xs, m, rfl, hx, hl, hn, hel⟩ := DataW.trod_array (by kernel_rfl : Tryz.prog.underlying 184 = some (.array 4 183)) hd
  rw [show Tryz.prog.cellsOf 184 = 16 by kernel_rfl] at hl
  have h1 := hel 1 (by decide)
  rw [show Tryz.prog.cellsOf 183 = 4 by kernel_rfl] at h1
  obtain ⟨x0, x1, x2, x3, rfl⟩ : ∃ x0 x1 x2 x3, xs = [x0, x1, x2, x3] := by
    match xs, hn with
    | [x0, x1, x2, x3], _ => exact ⟨x0, x1, x2, x3, rfl⟩
  have hx1 : x1.1 = .agg [.lit (.int .i64 4), .slice [.agg [.lit (.int .i64 1), .held letterName], .agg [.lit (.int .i64 7), .held alnumName]] [], .lit (.int .i64 0), .nil] := by
    have := (Prod.mk.inj hx).1
    simp only [DataW.funcsOut, DataW.funcsOutAll, List.map_cons, List.map_nil, DataW.agg.injEq, List.cons.injEq, beq_self_eq_true, if_true] at this
    exact this.2.1.symm
  obtain ⟨c0, c1, c2, c3, hcs⟩ : ∃ c0 c1 c2 c3, (cs.toList.drop (1 * 4)).take 4 = [c0, c1, c2, c3] := by
    have hlen : ((cs.toList.drop (1 * 4)).take 4).length = 4 := by simp only [List.length_take, List.length_drop, hl]; rfl
    match (cs.toList.drop (1 * 4)).take 4, hlen with
    | [c0, c1, c2, c3], _ => exact ⟨c0, c1, c2, c3, rfl⟩
  have hcell : ∀ j v, [c0, c1, c2, c3][j]? = some v → W.cell? ⟨3, 4 + j, none⟩ = some v := fun j v hj => by
    rw [World.var?_cell hg hv]
    rw [← hcs, List.getElem?_take] at hj
    split at hj
    · rw [List.getElem?_drop] at hj
      simpa using hj
    · cases hj
  rw [hcs] at h1
  obtain ⟨y0, y1, y2, y3, n, rfl, _, f0, f1, f2, f3⟩ := trod_struct4 kind_struct (show DataW.trod _ _ _ _ _ _ _ 183 [c0, c1, c2, c3] = some x1 from h1)
  simp only [DataW.agg.injEq, List.cons.injEq, and_true] at hx1
  obtain ⟨d0, d1, d2, d3⟩ := hx1
  rw [show Tryz.prog.cellsOf 3 = 1 by kernel_rfl] at f0 f2
  rw [show Tryz.prog.cellsOf 180 = 1 by kernel_rfl] at f1
  rw [show Tryz.prog.cellsOf 181 = 1 by kernel_rfl] at f3
  obtain ⟨k0, e0, rfl, _⟩ := DataW.trod_int Tryz.underlying3 (show DataW.trod _ _ _ _ _ _ _ 3 [c0] = _ from f0)
  obtain ⟨k2, e2, rfl, _⟩ := DataW.trod_int Tryz.underlying3 (show DataW.trod _ _ _ _ _ _ _ 3 [c2] = _ from f2)
  obtain ⟨z3, q3⟩ := y3
  obtain rfl := d3
  obtain rfl := nilFunc_of_trod (t := 181) (by kernel_rfl : Tryz.prog.underlying 181 = some (.func #[9] #[9] false)) (show DataW.trod _ _ _ _ _ _ _ 181 [c3] = _ from f3)
  simp only [List.cons.injEq, and_true] at e0 e2
  simp only [DataW.lit.injEq, Lit.int.injEq, true_and] at d0 d2
  subst e0 e2 d0 d2
  rcases DataW.trod_slice undK142 (show DataW.trod _ _ _ _ _ _ _ 180 [c1] = _ from f1) with ⟨_, rfl⟩ | ⟨a, len, cap, elems, rest, n', _, ec, rfl, _, _, _, hle, hE, _⟩
  · cases d1
  simp only [DataW.slice.injEq] at d1
  obtain ⟨d1, _⟩ := d1
  simp only [List.cons.injEq, and_true] at ec
  subst ec
  obtain ⟨z0, z1, rfl⟩ : ∃ z0 z1, elems = [z0, z1] := by
    have := congrArg List.length d1
    simp only [List.length_map, List.length_cons, List.length_nil] at this
    match elems, this with
    | [z0, z1], _ => exact ⟨z0, z1, rfl⟩
  simp only [List.map_cons, List.map_nil, List.cons.injEq, and_true] at d1
  simp only [List.length_cons, List.length_nil] at hle
  subst hle
  have hc155 : Tryz.prog.cellsOf 192 = 2 := by kernel_rfl
  obtain ⟨s0, s1⟩ := span_at (f0 := 146) (by kernel_rfl) (hE 0 (by decide)) d1.1
  obtain ⟨s2, s3⟩ := span_at (f0 := 147) (by kernel_rfl) (hE 1 (by decide)) d1.2
  rw [hc155] at s0 s1 s2 s3
  obtain ⟨b, off, spot⟩ := a
  obtain rfl : spot = none := by simpa [Addr.add] using World.cell?_spot s0
  refine ⟨b, off, cap, ⟨fun j v hj => hcell j v (by simpa [kindV, Value.cells] using hj), fun j v hj => ?_⟩⟩
  have a2 : ∀ i j, ((⟨b, off, none⟩ : Addr).add i).add j = ⟨b, off + (i + j), none⟩ := fun i j => by rw [Addr.add_mid, Addr.add_mid, Nat.add_assoc]
  rw [a2] at s0 s1 s2 s3
  rcases j with _ | _ | _ | _ | j
  · simp at hj; subst hj; exact s0
  · simp at hj; subst hj; exact s1
  · simp at hj; subst hj; exact s2
  · simp at hj; subst hj; exact s3
  · simp at hj
end

section
variable {W : World}
theorem tab_at (h : laidMetH Tryz.prog Rows.gatewayEachRow.laid W) : Lib.TabIs Tryz.prog W "internal/strconv.uint64pow10" .u64 Lib.pow10Tab := by
  have h1 := (laidMetH_iff.1 h).1
  have e : (Rows.gatewayEachRow.laid.filter fun x => x.2.handleName?.isNone) = [("math/bits.deBruijn32tab", Rows.laid_math_bits_deBruijn32tab), ("math/bits.deBruijn64tab", Rows.laid_math_bits_deBruijn64tab), ("internal/strconv.uint64pow10", Lib.tabData .u64 Lib.pow10Tab)] := by kernel_rfl
  rw [e] at h1
  exact Lib.tabIs_of_head (g := 2) (t := 178) (e := 86) (n := 20) (by kernel_rfl) (by kernel_rfl) (by kernel_rfl) (by kernel_rfl) (by kernel_rfl) (by kernel_rfl) h1.tail.tail
theorem rtypeT : (Tryz.prog.cutTypes.find? (·.1 == "internal/reflectlite.rtype")).map (·.2) = some 98 := by kernel_rfl
theorem errRow : ((List.range 230).filter fun t => Tryz.prog.rowNamed t [101, 114, 114, 111, 114]) = [32] := by kernel_rfl
theorem typesN : Tryz.prog.types.size = 230 := by kernel_rfl
theorem errT_at (h : laidMetH Tryz.prog Rows.gatewayEachRow.laid W) : ErrT W := by
  have h1 := (laidMetH_iff.1 h).2 ("errors.errorType", Rows.laid_errors_errorType) (List.mem_filter.2 ⟨List.mem_cons_of_mem _ (List.mem_cons_of_mem _ (List.mem_cons_of_mem _ (List.mem_cons_self ..))), by kernel_rfl⟩)
  obtain ⟨name, u, ty, e1, e2, e3, e4, e5⟩ := h1
  have en : name = [101, 114, 114, 111, 114] := (Option.some.inj ((show (Rows.laid_errors_errorType (H := Unit)).handleName? = some [101, 114, 114, 111, 114] by kernel_rfl).symm.trans e1)).symm
  subst en
  obtain rfl := Option.some.inj (rtypeT.symm.trans e2)
  have hm : ty ∈ (List.range 230).filter fun t => Tryz.prog.rowNamed t [101, 114, 114, 111, 114] := List.mem_filter.2 ⟨List.mem_range.2 (by rw [← typesN]; exact e3), e4⟩
  rw [errRow] at hm
  obtain rfl := List.mem_singleton.1 hm
  have hh : (Value.iface 98 (.agg #[typeHandle Tryz.prog 32])) = rty 32 := by kernel_rfl
  rw [hh] at e5
  unfold ErrT
  simpa using World.var?_cell (show Tryz.prog.globalNamed "errors.errorType" = some 0 by kernel_rfl) e5 0
end
end Go.Proofs.YtmmjlngbiilagaaGreatDoor
