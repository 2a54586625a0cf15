/-
  GOROUTINE 0's WALK: Each: without a function; at streams that are refused.
-/
import Derived.Test.YtmmjlngbiilagaaGreatDoorT23

namespace Go.Proofs.YtmmjlngbiilagaaGreatDoor
open Go Go.Conc Go.Shelf Go.RowKit Go.Lib

/-- An error for invalid arguments. -/
def InvR (E : Int) (v : World) (z : Value) (v' : World) : Prop := ∃ r : Nat, z = .iface 35 (.pointer (some ⟨r, 0, none⟩)) ∧ v'.cell? ⟨r, 0, none⟩ = some (.int .i64 E) ∧ v.heap.size ≤ r ∧ Bl v.heap.size v v'
/-- The consumer's method, as a function value. -/
abbrev takeV (gc : Nat) : Value := .func (.func 7) #[.pointer (some ⟨gc, 0, none⟩)] #[]
section
variable {Gd : GB} {F : Nat → Prop} {v : World} {sts : List St4} {A : Option Addr} {bst capS sb so kc : Nat}
theorem inv_new {E : Int} {u : World} (h : Bl v.heap.size v u) : InvR E v (.iface 35 (.pointer (some ⟨u.heap.size, 0, none⟩))) (u.alloc (.cells #[.int .i64 E] 42)) :=
  ⟨_, rfl, cell_of_row _ _ 0 _ _ _ (heap_alloc_new u _), h.size, h.alloc h.size _⟩
set_option maxRecDepth 100000 in
set_option maxHeartbeats 4000000 in
theorem each_nil (hgl : ∀ g, glH g = true → Gd g) (x : Value) :
    CallsV Vh Tryz.prog Gd 6 #[x, .nilFunc] F v fun F' z v' => F' = F ∧ InvR 1 v z v' := by
  refine callsV_body Tryz.func6 (by rfl) (by kernel_rfl) ?_
  simp only [Tryz.ntmps6]
  (simp only [List.size_toArray, List.length_cons, List.length_nil, Nat.reduceAdd, Nat.reduceSub, Array.replicate_succ, Array.replicate_zero, List.push_toArray, List.append_toArray, List.nil_append, List.cons_append])
  (have tpc := tpC; have tpf := tpF; have tpa := tpA; have tps := tpS; have tph := tpH)
  (refine wpV_seq ?_)
  (refine wpV_region ?_; simp only [List.size_toArray, List.length_cons, List.length_nil, Nat.reduceAdd, Nat.zero_add, List.range, List.range.loop])
  (refine opsV_op_k rfl (by rfl) (fun B hn => opsH hn hgl (by first | rfl | kernel_rfl)) ?_; intro τ p K hK; go_simp; refine hK _ _ ?_; clear hK K p τ; (try walk_nrm))
  (refine opsV_nil ?_; (try dsimp only [thenV_normal, inBV_normal]))
  (refine wpV_seq ?_)
  (refine wpV_seq ?_)
  (refine wpV_region ?_; simp only [List.size_toArray, List.length_cons, List.length_nil, Nat.reduceAdd, Nat.zero_add, List.range, List.range.loop])
  (refine opsV_op_k rfl (by rfl) (fun B hn => opsH hn hgl (by first | rfl | kernel_rfl)) ?_; intro τ p K hK; go_simp; refine hK _ _ ?_; clear hK K p τ; (try walk_nrm))
  (refine opsV_pureS (x := .bool true) (es := #[]) rfl (by rfl) (exec_bin rfl (by rfl) (by rfl)) (fun w => by kernel_rfl) (by rfl) (.inr (.bool _)) ?_; (try walk_nrm))
  (refine opsV_nil ?_; (try dsimp only [thenV_normal, inBV_normal]))
  (refine wpV_cond_t rfl ?_)
  (refine wpV_seq ?_)
  (refine wpV_region ?_; simp only [List.size_toArray, List.length_cons, List.length_nil, Nat.reduceAdd, Nat.zero_add, List.range, List.range.loop])
  (refine opsV_op_k rfl (by rfl) (fun B hn => opsH hn hgl (by first | rfl | kernel_rfl)) ?_; intro τ p K hK; go_simp; refine hK _ _ ?_; clear hK K p τ; (try walk_nrm))
  (refine opsV_op_k rfl (by rfl) (fun B hn => opsH hn hgl (by first | rfl | kernel_rfl)) ?_; intro τ p K hK; go_simp; refine hK _ _ ?_; clear hK K p τ; (try walk_nrm))
  (refine opsV_op_k rfl (by rfl) (fun B hn => opsH hn hgl (by first | rfl | kernel_rfl)) ?_; intro τ p K hK; go_simp; refine hK _ _ ?_; clear hK K p τ; (try walk_nrm))
  (refine opsV_op_k rfl (by rfl) (fun B hn => opsH hn hgl (by first | rfl | kernel_rfl)) ?_; intro τ p K hK; go_simp; refine hK _ _ ?_; clear hK K p τ; (try walk_nrm))
  (refine opsV_nil ?_; (try dsimp only [thenV_normal, inBV_normal]))
  (refine wpV_ret ?_; (try dsimp only [thenV_ret, inBV_ret]))
  exact ⟨.inr rfl, rfl, _, resultsC_tmp (by rfl) _, rfl, inv_new (Bl.refl _ _)⟩
set_option maxRecDepth 100000 in
set_option maxHeartbeats 4000000 in
theorem each_bad (hgl : ∀ g, glH g = true → Gd g) (gc : Nat) {E : Int} (hE0 : E ≠ 0)
    (hmc : CallsV Vh Tryz.prog Gd 16 #[.slice A sts.length capS] F v fun F' z v' => F' = F ∧ z = .tuple #[.slice none 0 0, .int .i64 E] ∧ Bl v.heap.size v v') :
    CallsV Vh Tryz.prog Gd 6 #[.slice A sts.length capS, takeV gc] F v fun F' z v' => F' = F ∧ InvR E v z v' := by
  refine callsV_body Tryz.func6 (by rfl) (by kernel_rfl) ?_
  simp only [Tryz.ntmps6]
  (simp only [List.size_toArray, List.length_cons, List.length_nil, Nat.reduceAdd, Nat.reduceSub, Array.replicate_succ, Array.replicate_zero, List.push_toArray, List.append_toArray, List.nil_append, List.cons_append])
  have hE1 : (E != 0) = true := by simpa using hE0
  clear hE0
  (have tpc := tpC; have tpf := tpF; have tpa := tpA; have tps := tpS; have tph := tpH)
  (refine wpV_seq ?_)
  (refine wpV_region ?_; simp only [List.size_toArray, List.length_cons, List.length_nil, Nat.reduceAdd, Nat.zero_add, List.range, List.range.loop])
  (refine opsV_op_k rfl (by rfl) (fun B hn => opsH hn hgl (by first | rfl | kernel_rfl)) ?_; intro τ p K hK; go_simp; refine hK _ _ ?_; clear hK K p τ; (try walk_nrm))
  (refine opsV_nil ?_; (try dsimp only [thenV_normal, inBV_normal]))
  (refine wpV_seq ?_)
  (refine wpV_seq ?_)
  (refine wpV_region ?_; simp only [List.size_toArray, List.length_cons, List.length_nil, Nat.reduceAdd, Nat.zero_add, List.range, List.range.loop])
  (refine opsV_op_k rfl (by rfl) (fun B hn => opsH hn hgl (by first | rfl | kernel_rfl)) ?_; intro τ p K hK; go_simp; refine hK _ _ ?_; clear hK K p τ; (try walk_nrm))
  (refine opsV_pureS (x := .bool false) (es := #[]) rfl (by rfl) (exec_bin rfl (by rfl) (by rfl)) (fun w => by kernel_rfl) (by rfl) (.inr (.bool _)) ?_; (try walk_nrm))
  (refine opsV_nil ?_; (try dsimp only [thenV_normal, inBV_normal]))
  (refine wpV_cond_f rfl ?_)
  (refine wpV_skip ?_; (try dsimp only [thenV_normal, inBV_normal]))
  (refine wpV_seq ?_)
  (refine wpV_region ?_; simp only [List.size_toArray, List.length_cons, List.length_nil, Nat.reduceAdd, Nat.zero_add, List.range, List.range.loop])
  (refine opsV_op_k rfl (by rfl) (fun B hn => opsH hn hgl (by first | rfl | kernel_rfl)) ?_; intro τ p K hK; go_simp; refine hK _ _ ?_; clear hK K p τ; (try walk_nrm))
  (refine opsV_enter (R := ?R39) rfl (by rfl) (run_callV rfl rfl Tryz.func16 (by kernel_rfl) rfl) (pf_call hgl (by rfl)) ?hc39 ?hn39; case hc39 => (walk_nrm; exact hmc))
  rintro F2 z v1 ⟨rfl, rfl, hb⟩
  have HB := Lib.hid hb
  clear hb hmc
  walk_nrm
  (refine opsV_op_k rfl (by rfl) (fun B hn => opsH hn hgl (by first | rfl | kernel_rfl)) ?_; intro τ p K hK; go_simp; refine hK _ _ ?_; clear hK K p τ; (try walk_nrm))
  (refine opsV_op_k rfl (by rfl) (fun B hn => opsH hn hgl (by first | rfl | kernel_rfl)) ?_; intro τ p K hK; go_simp; refine hK _ _ ?_; clear hK K p τ; (try walk_nrm))
  (refine opsV_op_k rfl (by rfl) (fun B hn => opsH hn hgl (by first | rfl | kernel_rfl)) ?_; intro τ p K hK; go_simp; refine hK _ _ ?_; clear hK K p τ; (try walk_nrm))
  (refine opsV_op_k rfl (by rfl) (fun B hn => opsH hn hgl (by first | rfl | kernel_rfl)) ?_; intro τ p K hK; go_simp; refine hK _ _ ?_; clear hK K p τ; (try walk_nrm))
  (refine opsV_op_k rfl (by rfl) (fun B hn => opsH hn hgl (by first | rfl | kernel_rfl)) ?_; intro τ p K hK; go_simp; refine hK _ _ ?_; clear hK K p τ; (try walk_nrm))
  (refine opsV_nil ?_; (try dsimp only [thenV_normal, inBV_normal]))
  (refine wpV_seq ?_)
  (refine wpV_seq ?_)
  (refine wpV_region ?_; simp only [List.size_toArray, List.length_cons, List.length_nil, Nat.reduceAdd, Nat.zero_add, List.range, List.range.loop])
  (refine opsV_op_k rfl (by rfl) (fun B hn => opsH hn hgl (by first | rfl | kernel_rfl)) ?_; intro τ p K hK; go_simp; refine hK _ _ ?_; clear hK K p τ; (try walk_nrm))
  (refine opsV_op_k rfl (by rfl) (fun B hn => opsH hn hgl (by first | rfl | kernel_rfl)) ?_; intro τ p K hK; go_simp; refine hK _ _ ?_; clear hK K p τ; (try walk_nrm))
  (refine opsV_nil ?_; (try dsimp only [thenV_normal, inBV_normal]))
  (refine wpV_cond_t rfl ?_)
  (refine wpV_seq ?_)
  (refine wpV_region ?_; simp only [List.size_toArray, List.length_cons, List.length_nil, Nat.reduceAdd, Nat.zero_add, List.range, List.range.loop])
  (refine opsV_op_k rfl (by rfl) (fun B hn => opsH hn hgl (by first | rfl | kernel_rfl)) ?_; intro τ p K hK; go_simp; refine hK _ _ ?_; clear hK K p τ; (try walk_nrm))
  (refine opsV_op_k rfl (by rfl) (fun B hn => opsH hn hgl (by first | rfl | kernel_rfl)) ?_; intro τ p K hK; go_simp; refine hK _ _ ?_; clear hK K p τ; (try walk_nrm))
  (refine opsV_op_k rfl (by rfl) (fun B hn => opsH hn hgl (by first | rfl | kernel_rfl)) ?_; intro τ p K hK; go_simp; refine hK _ _ ?_; clear hK K p τ; (try walk_nrm))
  (refine opsV_op_k rfl (by rfl) (fun B hn => opsH hn hgl (by first | rfl | kernel_rfl)) ?_; intro τ p K hK; go_simp; refine hK _ _ ?_; clear hK K p τ; (try walk_nrm))
  (refine opsV_op_k rfl (by rfl) (fun B hn => opsH hn hgl (by first | rfl | kernel_rfl)) ?_; intro τ p K hK; go_simp; refine hK _ _ ?_; clear hK K p τ; (try walk_nrm))
  (refine opsV_nil ?_; (try dsimp only [thenV_normal, inBV_normal]))
  (refine wpV_ret ?_; (try dsimp only [thenV_ret, inBV_ret]))
  exact ⟨.inr rfl, rfl, _, resultsC_tmp (by rfl) _, rfl, inv_new HB.out⟩
end
end Go.Proofs.YtmmjlngbiilagaaGreatDoor

/-
  GOROUTINE 0's WALK: Each: the consumer takes the messages in order.
-/
namespace Go.Proofs.YtmmjlngbiilagaaGreatDoor
open Go Go.Conc Go.Shelf Go.RowKit Go.Lib Go.Sort

/-- Ascending. -/
def Asc (ls : List M4) : Prop := ∀ (i j : Nat) (x y : M4), ls[i]? = some x → ls[j]? = some y → i < j → ¬ cmpMsg y x < 0
/-- Messages in a row, from its beginning. -/
def RowLs (gS : Nat) (ls : List M4) (w : World) : Prop := ∀ (j : Nat) (x : M4), ls[j]? = some x → w.rangeAt gS (j * 4) x.cells
theorem rowLs_of {gS len : Nat} {d : Array M4} {w : World} (h : RowOf gS len d w) : RowLs gS d.toList w := fun j x hx => by
  obtain ⟨cur, h1, _, _, h2⟩ := h
  have hj : j < d.size := by simpa using (List.getElem?_eq_some_iff.1 hx).1
  intro r v hv
  have hr : r < 4 := (List.getElem?_eq_some_iff.1 hv).1
  rw [cell_of_row w gS _ _ _ _ h1, h2 _ (by omega), get_flatK _ _ _ _ (by omega)]
  have e1 : (j * 4 + r) / 4 = j := by omega
  have e2 : (j * 4 + r) % 4 = r := by omega
  rw [e1, e2]
  have hd : d[j]! = x := by
    rw [getElem!_pos d j hj]
    have := List.getElem?_eq_some_iff.1 hx
    simpa using this.2
  rw [hd]
  have hv' : x.cells[r]? = some v := hv
  show some (x.cells[r]!) = some v
  obtain ⟨hl, e⟩ := List.getElem?_eq_some_iff.1 hv'
  rw [getElem!_pos x.cells r hl, e]
theorem mres_list {F F' : Nat → Prop} {v v' : World} {ms : List M4} {z : Value} (h : MergeRes F v ms F' z v') : ∃ ls : List M4, List.Perm ls ms ∧ Asc ls ∧ ∃ (A : Option Addr) (cap : Nat), z = .tuple #[.slice A ls.length cap, .int .i64 0] ∧
    (ls = [] ∨ ∃ gS, A = some ⟨gS, 0, none⟩ ∧ v.heap.size ≤ gS ∧ gS < v'.heap.size ∧ RowLs gS ls v') := by
  obtain ⟨lm, hp, ⟨rfl, rfl⟩ | ⟨gS, cap, d, rfl, hg, _, _, hpi, hs, hr⟩⟩ := h.val
  · exact ⟨[], hp, (fun i j x y hx => by cases hx), none, 0, rfl, .inl rfl⟩
  · have hsz : d.size = lm.length := by have := hpi.1; simpa using this
    have e1 : (d.extract 0 lm.length).toList = d.toList := by rw [← hsz]; simp
    have e2 : (lm.toArray.extract 0 lm.length).toList = lm := by simp
    have hpd : List.Perm d.toList lm := by
      have := hpi.2.2
      rwa [e1, e2] at this
    refine ⟨d.toList, hpd.trans hp, fun i j x y hx hy hij => ?_, some ⟨gS, 0, none⟩, cap, by rw [hpd.length_eq], .inr ⟨gS, rfl, hg, ?_, rowLs_of hr⟩⟩
    · have hj : j < d.size := by simpa using (List.getElem?_eq_some_iff.1 hy).1
      have hi : i < d.size := by omega
      have h3 := hs i j (Nat.zero_le _) hij (by omega)
      have ex : d[i]! = x := by rw [getElem!_pos d i hi]; have := (List.getElem?_eq_some_iff.1 hx).2; simpa using this
      have ey : d[j]! = y := by rw [getElem!_pos d j hj]; have := (List.getElem?_eq_some_iff.1 hy).2; simpa using this
      rw [ex, ey] at h3
      simpa [ltOf] using h3
    · obtain ⟨cur, h1, _⟩ := hr
      exact heap_lt h1
theorem pf_callF {Gd : GB} (hgl : ∀ g, glH g = true → Gd g) {a : Act} {first : Array Value} {args : Array Operand} (hf : ∀ x ∈ first, PFg Gd x) (h : args.toList.all (opdH glH) = true) (hp : ∀ x ∈ a.tmps, PFg Gd x) : ∀ x ∈ (first ++ args.map a.eval ++ #[] : Array Value), PFg Gd x := fun x hx => by
  have hx' : x ∈ first ∨ x ∈ args.map a.eval := by simpa using hx
  rcases hx' with hx' | hx'
  · exact hf x hx'
  · obtain ⟨o, ho, rfl⟩ := Array.mem_map.1 hx'
    exact (evOk_of (K := cfgV Vh Tryz.prog Gd 0) hp).val (opdH_ok (K := cfgV Vh Tryz.prog Gd 0) (fun g hg => .inr (hgl g hg)) (List.all_eq_true.1 h o (by simpa using ho)))
/-- What is known while the consumer takes. -/
structure TkI (gc base : Nat) (l : List M4) (most : Nat) (v2 u : World) : Prop where
  cons : ∃ vv, Cons u gc base vv l (most : Int)
  size : v2.heap.size ≤ u.heap.size
  os : u.os = v2.os
  output : u.output = v2.output
  keep : ∀ b, b < v2.heap.size → b ≠ gc → u.heap[b]? = v2.heap[b]?
theorem TkI.alloc {gc base : Nat} {l : List M4} {most : Nat} {v2 u : World} (h : TkI gc base l most v2 u) (o : Obj) : TkI gc base l most v2 (u.alloc o) := by
  obtain ⟨vv, h1, h2⟩ := h.cons
  refine ⟨⟨vv, ?_, h2.alloc o⟩, by have := h.size; simp; omega, h.os, h.output, fun b hb hn => (Below.heap_alloc u o b (by have := h.size; omega)).trans (h.keep b hb hn)⟩
  unfold Blk at h1 ⊢
  exact (Below.heap_alloc u o gc (heap_lt h1)).trans h1
section
variable {Gd : GB} {F : Nat → Prop}
theorem take_go (hgl : ∀ g, glH g = true → Gd g) {gc most : Nat} {l : List M4} {x : M4} {v2 u : World} (h : TkI gc v2.heap.size l most v2 u) (hl : l.length ≤ 300) (hm : l.length < most) :
    CallsV Vh Tryz.prog Gd 7 #[.pointer (some ⟨gc, 0, none⟩), .agg #[.int .i64 x.t, .string x.m, .int .i64 x.s, .string x.p]] F u fun F' z v' => F' = F ∧ z = .nilIface ∧ TkI gc v2.heap.size (l ++ [x]) most v2 v' := by
  obtain ⟨vv, hc⟩ := h.cons
  exact callsV_calls (fun B hn => pruneH hn hgl) Tryz.func7 (Vh.fn Tryz.func7 (by kernel_rfl)) rfl (R := fun z v' => z = .nilIface ∧ TkI gc v2.heap.size (l ++ [x]) most v2 v') fun τ p =>
    (take_room gc v2.heap.size vv l x most (tp u τ p) ⟨hc.blk, hc.own⟩ hl (by omega) h.size).mono fun e w' ⟨h1, v', h2, h3, h4, _, h5, h6⟩ => ⟨_, h1, rfl, ⟨v', h2⟩, Nat.le_trans h.size h3, h4.trans h.os, h5.trans h.output, fun b hb hn => (h6 b (Nat.lt_of_lt_of_le hb h.size) hb hn).trans (h.keep b hb hn)⟩
theorem take_stop (hgl : ∀ g, glH g = true → Gd g) {gc base : Nat} {l : List M4} {x : M4} {v2 u : World} (h : TkI gc base l l.length v2 u) (hl : l.length ≤ 300) :
    CallsV Vh Tryz.prog Gd 7 #[.pointer (some ⟨gc, 0, none⟩), .agg #[.int .i64 x.t, .string x.m, .int .i64 x.s, .string x.p]] F u fun F' z v' => F' = F ∧ z = refV ∧ Bl u.heap.size u v' := by
  obtain ⟨vv, hc⟩ := h.cons
  exact callsV_calls (fun B hn => pruneH hn hgl) Tryz.func7 (Vh.fn Tryz.func7 (by kernel_rfl)) rfl (R := fun z v' => z = refV ∧ Bl u.heap.size u v') fun τ p =>
    (take_full gc base vv l x (tp u τ p) ⟨hc.blk, hc.own⟩ hl).mono fun e w' ⟨h1, h2⟩ => ⟨_, h1, rfl, Bl.untp h2⟩
end
end Go.Proofs.YtmmjlngbiilagaaGreatDoor

/-
  GOROUTINE 0's WALK: Each at good streams.
-/
namespace Go.Proofs.YtmmjlngbiilagaaGreatDoor
open Go Go.Conc Go.Shelf Go.RowKit Go.Lib Go.Sort

/-- What Merge keeps. -/
structure MrgK (F : Nat → Prop) (v : World) (F' : Nat → Prop) (v' : World) : Prop where
  more : ∀ b, F b → F' b
  old : ∀ b, b < v.heap.size → F' b → F b
  size : v.heap.size ≤ v'.heap.size
  same : ∀ b, b < v.heap.size → ¬ F b → v'.heap[b]? = v.heap[b]?
  os : v'.os = v.os
  output : v'.output = v.output
theorem MrgK.of {F F' : Nat → Prop} {v v1 v' : World} {ms : List M4} {z : Value} (hb : Bl v.heap.size v v1) (h : MergeRes F v1 ms F' z v') : MrgK F v F' v' :=
  ⟨h.more, fun b hl hf => h.old b (Nat.lt_of_lt_of_le hl hb.size) hf, Nat.le_trans hb.size h.size, fun b hl hf => (h.same b (Nat.lt_of_lt_of_le hl hb.size) hf).trans (hb.block b hl), h.os.trans hb.os, h.output.trans hb.output⟩
theorem TkI.bl {gc base : Nat} {l : List M4} {most : Nat} {v2 u u' : World} (h : TkI gc base l most v2 u) (hb : Bl u.heap.size u u') : TkI gc base l most v2 u' := by
  obtain ⟨vv, h1, h2⟩ := h.cons
  refine ⟨⟨vv, ?_, own_keep h2 fun g hg => hb.block g (own_lt h2 hg)⟩, Nat.le_trans h.size hb.size, hb.os.trans h.os, hb.output.trans h.output, fun b hbb hn => (hb.block b (Nat.lt_of_lt_of_le hbb h.size)).trans (h.keep b hbb hn)⟩
  unfold Blk at h1 ⊢
  exact (hb.block gc (heap_lt h1)).trans h1
/-- The loop's state. -/
def EI (A0 A : Option Addr) (n0 cap0 cap gc most : Nat) (ls : List M4) (v2 : World) (a : Act) (u : World) : Prop :=
  ∃ (k : Nat) (x8 x9 x29 x30 x31 x32 x33 x34 x35 x36 x42 : Value), k ≤ ls.length ∧ k ≤ most ∧ TkI gc v2.heap.size (ls.take k) most v2 u ∧
    a = ⟨(.slice A0 n0 cap0 :: takeV gc :: undef :: undef :: .nilIface :: .slice A ls.length cap :: .int .i64 0 :: undef :: x8 :: x9 :: takeV gc :: .bool false :: undef :: undef :: undef :: .tuple #[.slice A ls.length cap, .int .i64 0] :: .slice A0 n0 cap0 :: .tuple #[.slice A ls.length cap, .int .i64 0] :: .slice A ls.length cap :: .int .i64 0 :: .int .i64 0 :: .bool false :: undef :: undef :: undef :: undef :: .slice A ls.length cap :: .int .i64 ls.length :: .int .i64 k :: x29 :: x30 :: x31 :: x32 :: x33 :: x34 :: x35 :: x36 :: undef :: undef :: undef :: undef :: undef :: x42 :: []).toArray, []⟩
/-- What Each leaves behind. -/
def EachR (F : Nat → Prop) (v : World) (gc most : Nat) (ms : List M4) (F' : Nat → Prop) (z : Value) (v' : World) : Prop :=
  ∃ (ls : List M4) (v2 : World), MrgK F v F' v2 ∧ List.Perm ls ms ∧ Asc ls ∧ ((ls.length ≤ most ∧ z = .nilIface ∧ TkI gc v2.heap.size ls most v2 v') ∨
    (∃ (x : M4) (r : Nat), ls[most]? = some x ∧ z = .iface 36 (.pointer (some ⟨r, 0, none⟩)) ∧ RejAt r x v' ∧ v2.heap.size ≤ r ∧ TkI gc v2.heap.size (ls.take most) most v2 v'))
theorem rej_new (u : World) (x : M4) : RejAt u.heap.size x (u.alloc (.cells #[.int .i64 x.t, .string x.m, .int .i64 x.s, .string x.p, refV] 52)) := by
  have h := heap_alloc_new u (.cells #[.int .i64 x.t, .string x.m, .int .i64 x.s, .string x.p, refV] 52)
  exact ⟨cell_of_row _ _ 0 _ _ _ h, cell_of_row _ _ 1 _ _ _ h, cell_of_row _ _ 2 _ _ _ h, cell_of_row _ _ 3 _ _ _ h, cell_of_row _ _ 4 _ _ _ h⟩
section
variable {Gd : GB} {F : Nat → Prop} {v : World} {A0 : Option Addr} {n0 cap0 : Nat}
set_option maxRecDepth 100000 in
set_option maxHeartbeats 8000000 in
theorem each_good (hgl : ∀ g, glH g = true → Gd g) (gc most : Nat) (hgc : Gd gc) (hgl2 : gc < v.heap.size) (hgF : ¬ F gc) (hcons : Cons v gc 0 (.slice none 0 0) [] (most : Int)) (ms : List M4) (hms : ms.length ≤ 300) (hmost : most ≤ 300)
    (hmc : CallsV Vh Tryz.prog Gd 16 #[.slice A0 n0 cap0] F v fun F' z v' => ∃ v1, Bl v.heap.size v v1 ∧ MergeRes F v1 ms F' z v') :
    CallsV Vh Tryz.prog Gd 6 #[.slice A0 n0 cap0, takeV gc] F v (EachR F v gc most ms) := by
  refine callsV_body Tryz.func6 (by rfl) (by kernel_rfl) ?_
  simp only [Tryz.ntmps6]
  (simp only [List.size_toArray, List.length_cons, List.length_nil, Nat.reduceAdd, Nat.reduceSub, Array.replicate_succ, Array.replicate_zero, List.push_toArray, List.append_toArray, List.nil_append, List.cons_append])
  (have tpc := tpC; have tpf := tpF; have tpa := tpA; have tps := tpS; have tph := tpH)
  (refine wpV_seq ?_)
  (refine wpV_region ?_; simp only [List.size_toArray, List.length_cons, List.length_nil, Nat.reduceAdd, Nat.zero_add, List.range, List.range.loop])
  (refine opsV_op_k rfl (by rfl) (fun B hn => opsH hn hgl (by first | rfl | kernel_rfl)) ?_; intro τ p K hK; go_simp; refine hK _ _ ?_; clear hK K p τ; (try walk_nrm))
  (refine opsV_nil ?_; (try dsimp only [thenV_normal, inBV_normal]))
  (refine wpV_seq ?_)
  (refine wpV_seq ?_)
  (refine wpV_region ?_; simp only [List.size_toArray, List.length_cons, List.length_nil, Nat.reduceAdd, Nat.zero_add, List.range, List.range.loop])
  (refine opsV_op_k rfl (by rfl) (fun B hn => opsH hn hgl (by first | rfl | kernel_rfl)) ?_; intro τ p K hK; go_simp; refine hK _ _ ?_; clear hK K p τ; (try walk_nrm))
  (refine opsV_pureS (x := .bool false) (es := #[]) rfl (by rfl) (exec_bin rfl (by rfl) (by rfl)) (fun w => by kernel_rfl) (by rfl) (.inr (.bool _)) ?_; (try walk_nrm))
  (refine opsV_nil ?_; (try dsimp only [thenV_normal, inBV_normal]))
  (refine wpV_cond_f rfl ?_)
  (refine wpV_skip ?_; (try dsimp only [thenV_normal, inBV_normal]))
  (refine wpV_seq ?_)
  (refine wpV_region ?_; simp only [List.size_toArray, List.length_cons, List.length_nil, Nat.reduceAdd, Nat.zero_add, List.range, List.range.loop])
  (refine opsV_op_k rfl (by rfl) (fun B hn => opsH hn hgl (by first | rfl | kernel_rfl)) ?_; intro τ p K hK; go_simp; refine hK _ _ ?_; clear hK K p τ; (try walk_nrm))
  (refine opsV_enter (R := ?R18) rfl (by rfl) (run_callV rfl rfl Tryz.func16 (by kernel_rfl) rfl) (pf_call hgl (by rfl)) ?hc18 ?hn18; case hc18 => (walk_nrm; exact hmc))
  rintro F2 z v2 ⟨v1, hb, hm⟩
  obtain ⟨ls, hperm, hasc, A, cap, rfl, hrow⟩ := mres_list hm
  have hk := MrgK.of hb hm
  have hlen : ls.length ≤ 300 := by rw [hperm.length_eq]; exact hms
  have hT0 : TkI gc v2.heap.size [] most v2 v2 := by
    refine ⟨⟨.slice none 0 0, ?_, ⟨by simp [cellsL], .inl ⟨rfl, rfl⟩⟩⟩, Nat.le_refl _, rfl, rfl, fun _ _ _ => rfl⟩
    have := hcons.blk
    unfold Blk at this ⊢
    exact (hk.same gc hgl2 hgF).trans this
  have hres : ∀ (z : Value) (v' : World), ((ls.length ≤ most ∧ z = .nilIface ∧ TkI gc v2.heap.size ls most v2 v') ∨ (∃ (x : M4) (r : Nat), ls[most]? = some x ∧ z = .iface 36 (.pointer (some ⟨r, 0, none⟩)) ∧ RejAt r x v' ∧ v2.heap.size ≤ r ∧ TkI gc v2.heap.size (ls.take most) most v2 v')) → EachR F v gc most ms F2 z v' :=
    fun z v' h => ⟨ls, v2, hk, hperm, hasc, h⟩
  have hgc1 : gc < v1.heap.size := Nat.lt_of_lt_of_le hgl2 hb.size
  have HRES := Lib.hid hres
  have HT0 := Lib.hid hT0
  have HROW := Lib.hid hrow
  clear hres hT0 hrow hk hasc hperm hm hb hmc hcons
  generalize hEQ : EachR F v gc most ms = QQ at HRES ⊢
  clear hEQ
  walk_nrm
  (refine opsV_op_k rfl (by rfl) (fun B hn => opsH hn hgl (by first | rfl | kernel_rfl)) ?_; intro τ p K hK; go_simp; refine hK _ _ ?_; clear hK K p τ; (try walk_nrm))
  (refine opsV_op_k rfl (by rfl) (fun B hn => opsH hn hgl (by first | rfl | kernel_rfl)) ?_; intro τ p K hK; go_simp; refine hK _ _ ?_; clear hK K p τ; (try walk_nrm))
  (refine opsV_op_k rfl (by rfl) (fun B hn => opsH hn hgl (by first | rfl | kernel_rfl)) ?_; intro τ p K hK; go_simp; refine hK _ _ ?_; clear hK K p τ; (try walk_nrm))
  (refine opsV_op_k rfl (by rfl) (fun B hn => opsH hn hgl (by first | rfl | kernel_rfl)) ?_; intro τ p K hK; go_simp; refine hK _ _ ?_; clear hK K p τ; (try walk_nrm))
  (refine opsV_op_k rfl (by rfl) (fun B hn => opsH hn hgl (by first | rfl | kernel_rfl)) ?_; intro τ p K hK; go_simp; refine hK _ _ ?_; clear hK K p τ; (try walk_nrm))
  (refine opsV_nil ?_; (try dsimp only [thenV_normal, inBV_normal]))
  (refine wpV_seq ?_)
  (refine wpV_seq ?_)
  (refine wpV_region ?_; simp only [List.size_toArray, List.length_cons, List.length_nil, Nat.reduceAdd, Nat.zero_add, List.range, List.range.loop])
  (refine opsV_op_k rfl (by rfl) (fun B hn => opsH hn hgl (by first | rfl | kernel_rfl)) ?_; intro τ p K hK; go_simp; refine hK _ _ ?_; clear hK K p τ; (try walk_nrm))
  (refine opsV_op_k rfl (by rfl) (fun B hn => opsH hn hgl (by first | rfl | kernel_rfl)) ?_; intro τ p K hK; go_simp; refine hK _ _ ?_; clear hK K p τ; (try walk_nrm))
  (refine opsV_nil ?_; (try dsimp only [thenV_normal, inBV_normal]))
  (refine wpV_cond_f rfl ?_)
  (refine wpV_skip ?_; (try dsimp only [thenV_normal, inBV_normal]))
  (refine wpV_seq ?_)
  (refine wpV_seq ?_)
  (refine wpV_region ?_; simp only [List.size_toArray, List.length_cons, List.length_nil, Nat.reduceAdd, Nat.zero_add, List.range, List.range.loop])
  (refine opsV_op_k rfl (by rfl) (fun B hn => opsH hn hgl (by first | rfl | kernel_rfl)) ?_; intro τ p K hK; go_simp; refine hK _ _ ?_; clear hK K p τ; (try walk_nrm))
  (refine opsV_op_k rfl (by rfl) (fun B hn => opsH hn hgl (by first | rfl | kernel_rfl)) ?_; intro τ p K hK; go_simp; refine hK _ _ ?_; clear hK K p τ; (try walk_nrm))
  (refine opsV_op_k rfl (by rfl) (fun B hn => opsH hn hgl (by first | rfl | kernel_rfl)) ?_; intro τ p K hK; go_simp; refine hK _ _ ?_; clear hK K p τ; (try walk_nrm))
  (refine opsV_nil ?_; (try dsimp only [thenV_normal, inBV_normal]))
  (refine wpV_block ?_)
  refine wpV_loop (EI A0 A n0 cap0 cap gc most ls v2) (fun a _ => ls.length - (intOf (a.eval (.tmp 28))).toNat) ⟨0, undef, undef, undef, undef, undef, undef, undef, undef, undef, undef, undef, Nat.zero_le _, Nat.zero_le _, by simpa using HT0.out, rfl⟩ ?_
  rintro a u ⟨k, x8, x9, x29, x30, x31, x32, x33, x34, x35, x36, x42, hk1, hk2, hT, rfl⟩
  have HT := Lib.hid hT
  clear hT
  by_cases hlt : k < ls.length
  · obtain ⟨x, hx⟩ : ∃ x, ls[k]? = some x := ⟨_, List.getElem?_eq_getElem hlt⟩
    obtain ⟨gS, rfl, hg1, hg2, hrw⟩ : ∃ gS, A = some ⟨gS, 0, none⟩ ∧ v1.heap.size ≤ gS ∧ gS < v2.heap.size ∧ RowLs gS ls v2 := HROW.out.resolve_left fun e => by rw [e] at hlt; simp at hlt
    have hrx : u.rangeAt gS (k * 4) x.cells := rangeAt_block (hrw k x hx) (HT.out.keep gS hg2 (by omega))
    have m0 := hrx 0 _ rfl
    have m1 := hrx 1 _ rfl
    have m2 := hrx 2 _ rfl
    have m3 := hrx 3 _ rfl
    simp only [Nat.add_zero] at m0
    obtain ⟨u1, hu1⟩ : ∃ u1, u1 = u.alloc (.cells #[.int .i64 x.t, .string x.m, .int .i64 x.s, .string x.p] 50) := ⟨_, rfl⟩
    have hn1 : u1.heap[u.heap.size]? = some (.cells #[.int .i64 x.t, .string x.m, .int .i64 x.s, .string x.p] 50) := by rw [hu1]; exact heap_alloc_new u _
    have c0 := cell_of_row u1 u.heap.size 0 _ _ _ hn1
    have c1 := cell_of_row u1 u.heap.size 1 _ _ _ hn1
    have c2 := cell_of_row u1 u.heap.size 2 _ _ _ hn1
    have c3 := cell_of_row u1 u.heap.size 3 _ _ _ hn1
    simp only [List.getElem?_toArray, List.getElem?_cons_zero, List.getElem?_cons_succ] at c0 c1 c2 c3
    have hT1 : TkI gc v2.heap.size (ls.take k) most v2 u1 := by rw [hu1]; exact HT.out.alloc _
    have hlt1 : u.heap.size < u1.heap.size := heap_lt hn1
    have hkl : (ls.take k).length = k := by rw [List.length_take]; omega
    have hfirst : ∀ y ∈ (#[.pointer (some ⟨gc, 0, none⟩)] : Array Value), PFg Gd y := fun y hy => by (simp only [List.mem_toArray, List.mem_singleton] at hy; subst hy; exact .inr (.ptr hgc))
    have HU := Lib.hid hu1
    have HX := Lib.hid hx
    have HN1 := Lib.hid hn1
    have HT1 := Lib.hid hT1
    have HG := Lib.hid (show ls.length ≤ 300 from hlen)
    have HKL := Lib.hid hkl
    clear hu1 hx hn1 hT1 hrx hrw hkl
    (refine wpV_seq ?_)
    (refine wpV_region ?_; simp only [List.size_toArray, List.length_cons, List.length_nil, Nat.reduceAdd, Nat.zero_add, List.range, List.range.loop])
    (refine opsV_op_k rfl (by rfl) (fun B hn => opsH hn hgl (by first | rfl | kernel_rfl)) ?_; intro τ p K hK; go_simp; refine hK _ _ ?_; clear hK K p τ; (try walk_nrm))
    (refine opsV_nil ?_; (try dsimp only [thenV_normal, inBV_normal]))
    (refine wpV_seq ?_)
    (refine wpV_cond_t rfl ?_)
    (refine wpV_skip ?_; (try dsimp only [thenV_normal, inBV_normal]))
    (refine wpV_seq ?_)
    (refine wpV_block ?_)
    (refine wpV_seq ?_)
    (refine wpV_region ?_; simp only [List.size_toArray, List.length_cons, List.length_nil, Nat.reduceAdd, Nat.zero_add, List.range, List.range.loop])
    (refine opsV_op_k rfl (by rfl) (fun B hn => opsH hn hgl (by first | rfl | kernel_rfl)) ?_; intro τ p K hK; go_simp; refine hK _ _ ?_; clear hK K p τ; (try walk_nrm))
    (refine opsV_op_k rfl (by rfl) (fun B hn => opsH hn hgl (by first | rfl | kernel_rfl)) ?_; intro τ p K hK; go_simp; refine hK _ _ ?_; clear hK K p τ; (try walk_nrm))
    (refine opsV_op_k rfl (by rfl) (fun B hn => opsH hn hgl (by first | rfl | kernel_rfl)) ?_; intro τ p K hK; go_simp; refine hK _ _ ?_; clear hK K p τ; (try walk_nrm))
    (refine opsV_op_k rfl (by rfl) (fun B hn => opsH hn hgl (by first | rfl | kernel_rfl)) ?_; intro τ p K hK; go_simp; refine hK _ _ ?_; clear hK K p τ; (try walk_nrm))
    (refine opsV_nil ?_; (try dsimp only [thenV_normal, inBV_normal]))
    rw [show u.alloc (.cells #[.int .i64 x.t, .string x.m, .int .i64 x.s, .string x.p] 50) = u1 from HU.out.symm]
    clear m0 m1 m2 m3
    (refine wpV_seq ?_)
    (refine wpV_region ?_; simp only [List.size_toArray, List.length_cons, List.length_nil, Nat.reduceAdd, Nat.zero_add, List.range, List.range.loop])
    (refine opsV_op_k rfl (by rfl) (fun B hn => opsH hn hgl (by first | rfl | kernel_rfl)) ?_; intro τ p K hK; go_simp; refine hK _ _ ?_; clear hK K p τ; (try walk_nrm))
    (refine opsV_op_k rfl (by rfl) (fun B hn => opsH hn hgl (by first | rfl | kernel_rfl)) ?_; intro τ p K hK; go_simp; refine hK _ _ ?_; clear hK K p τ; (try walk_nrm))
    by_cases hkm : k = most
    · have htk := take_stop (F := F2) (x := x) hgl (l := ls.take k) (show TkI gc v2.heap.size (ls.take k) (ls.take k).length v2 u1 by rw [HKL.out, hkm]; rw [hkm] at HT1; exact HT1.out) (by rw [HKL.out]; have := HG.out; omega)
      (refine opsV_enter (R := ?R61) rfl (by rfl) (run_callV (first := #[.pointer (some ⟨gc, 0, none⟩)]) rfl rfl Tryz.func7 (by kernel_rfl) rfl) (pf_callF hgl (hfirst) (by rfl)) ?hc61 ?hn61; case hc61 => (walk_nrm; exact htk))
      rintro F3 z u2 ⟨rfl, rfl, hb2⟩
      have hn2 : u2.heap[u.heap.size]? = some (.cells #[.int .i64 x.t, .string x.m, .int .i64 x.s, .string x.p] 50) := (hb2.block _ hlt1).trans HN1.out
      have c0 := cell_of_row u2 u.heap.size 0 _ _ _ hn2
      have c1 := cell_of_row u2 u.heap.size 1 _ _ _ hn2
      have c2 := cell_of_row u2 u.heap.size 2 _ _ _ hn2
      have c3 := cell_of_row u2 u.heap.size 3 _ _ _ hn2
      simp only [List.getElem?_toArray, List.getElem?_cons_zero, List.getElem?_cons_succ] at c0 c1 c2 c3
      have HT2 := Lib.hid (HT1.out.bl hb2)
      clear hb2 hn2 htk
      walk_nrm
      (refine opsV_op_k rfl (by rfl) (fun B hn => opsH hn hgl (by first | rfl | kernel_rfl)) ?_; intro τ p K hK; go_simp; refine hK _ _ ?_; clear hK K p τ; (try walk_nrm))
      (refine opsV_nil ?_; (try dsimp only [thenV_normal, inBV_normal]))
      (refine wpV_seq ?_)
      (refine wpV_region ?_; simp only [List.size_toArray, List.length_cons, List.length_nil, Nat.reduceAdd, Nat.zero_add, List.range, List.range.loop])
      (refine opsV_op_k rfl (by rfl) (fun B hn => opsH hn hgl (by first | rfl | kernel_rfl)) ?_; intro τ p K hK; go_simp; refine hK _ _ ?_; clear hK K p τ; (try walk_nrm))
      (refine opsV_pureS (x := .bool true) (es := #[]) rfl (by rfl) (exec_bin rfl (by rfl) (by rfl)) (fun w => by kernel_rfl) (by rfl) (.inr (.bool _)) ?_; (try walk_nrm))
      (refine opsV_nil ?_; (try dsimp only [thenV_normal, inBV_normal]))
      (refine wpV_cond_t rfl ?_)
      (refine wpV_seq ?_)
      (refine wpV_region ?_; simp only [List.size_toArray, List.length_cons, List.length_nil, Nat.reduceAdd, Nat.zero_add, List.range, List.range.loop])
      (refine opsV_op_k rfl (by rfl) (fun B hn => opsH hn hgl (by first | rfl | kernel_rfl)) ?_; intro τ p K hK; go_simp; refine hK _ _ ?_; clear hK K p τ; (try walk_nrm))
      (refine opsV_op_k rfl (by rfl) (fun B hn => opsH hn hgl (by first | rfl | kernel_rfl)) ?_; intro τ p K hK; go_simp; refine hK _ _ ?_; clear hK K p τ; (try walk_nrm))
      (refine opsV_op_k rfl (by rfl) (fun B hn => opsH hn hgl (by first | rfl | kernel_rfl)) ?_; intro τ p K hK; go_simp; refine hK _ _ ?_; clear hK K p τ; (try walk_nrm))
      (refine opsV_op_k rfl (by rfl) (fun B hn => opsH hn hgl (by first | rfl | kernel_rfl)) ?_; intro τ p K hK; go_simp; refine hK _ _ ?_; clear hK K p τ; (try walk_nrm))
      (refine opsV_op_k rfl (by rfl) (fun B hn => opsH hn hgl (by first | rfl | kernel_rfl)) ?_; intro τ p K hK; go_simp; refine hK _ _ ?_; clear hK K p τ; (try walk_nrm))
      (refine opsV_op_k rfl (by rfl) (fun B hn => opsH hn hgl (by first | rfl | kernel_rfl)) ?_; intro τ p K hK; go_simp; refine hK _ _ ?_; clear hK K p τ; (try walk_nrm))
      (refine opsV_nil ?_; (try dsimp only [thenV_normal, inBV_normal]))
      (refine wpV_ret ?_; (try dsimp only [thenV_ret, inBV_ret]))
      exact ⟨.inr rfl, rfl, _, resultsC_tmp (by rfl) _, HRES.out _ _ (.inr ⟨x, u2.heap.size, by rw [← hkm]; exact HX.out, rfl, rej_new u2 x, HT2.out.size, by have h := HT2.out.alloc (.cells #[.int .i64 x.t, .string x.m, .int .i64 x.s, .string x.p, refV] 52); rw [hkm] at h; exact h⟩)⟩
    · have htk := take_go (F := F2) (x := x) hgl HT1.out (by rw [HKL.out]; have := HG.out; omega) (by rw [HKL.out]; omega)
      (refine opsV_enter (R := ?R80) rfl (by rfl) (run_callV (first := #[.pointer (some ⟨gc, 0, none⟩)]) rfl rfl Tryz.func7 (by kernel_rfl) rfl) (pf_callF hgl (hfirst) (by rfl)) ?hc80 ?hn80; case hc80 => (walk_nrm; exact htk))
      rintro F3 z u2 ⟨rfl, rfl, hT2⟩
      have HT2 := Lib.hid hT2
      clear hT2 htk c0 c1 c2 c3
      walk_nrm
      (refine opsV_op_k rfl (by rfl) (fun B hn => opsH hn hgl (by first | rfl | kernel_rfl)) ?_; intro τ p K hK; go_simp; refine hK _ _ ?_; clear hK K p τ; (try walk_nrm))
      (refine opsV_nil ?_; (try dsimp only [thenV_normal, inBV_normal]))
      (refine wpV_seq ?_)
      (refine wpV_region ?_; simp only [List.size_toArray, List.length_cons, List.length_nil, Nat.reduceAdd, Nat.zero_add, List.range, List.range.loop])
      (refine opsV_op_k rfl (by rfl) (fun B hn => opsH hn hgl (by first | rfl | kernel_rfl)) ?_; intro τ p K hK; go_simp; refine hK _ _ ?_; clear hK K p τ; (try walk_nrm))
      (refine opsV_pureS (x := .bool false) (es := #[]) rfl (by rfl) (exec_bin rfl (by rfl) (by rfl)) (fun w => by kernel_rfl) (by rfl) (.inr (.bool _)) ?_; (try walk_nrm))
      (refine opsV_nil ?_; (try dsimp only [thenV_normal, inBV_normal]))
      (refine wpV_cond_f rfl ?_)
      (refine wpV_skip ?_; (try dsimp only [thenV_normal, inBV_normal]))
      (refine wpV_region ?_; simp only [List.size_toArray, List.length_cons, List.length_nil, Nat.reduceAdd, Nat.zero_add, List.range, List.range.loop])
      (refine opsV_op_k rfl (by rfl) (fun B hn => opsH hn hgl (by first | rfl | kernel_rfl)) ?_; intro τ p K hK; go_simp; refine hK _ _ ?_; clear hK K p τ; (try walk_nrm))
      (refine opsV_op_k rfl (by rfl) (fun B hn => opsH hn hgl (by first | rfl | kernel_rfl)) ?_; intro τ p K hK; go_simp; refine hK _ _ ?_; clear hK K p τ; (try walk_nrm))
      (refine opsV_nil ?_; (try dsimp only [thenV_normal, inBV_normal]))
      have hw : IntKind.i64.wrap ((k : Int) + 1) = ((k + 1 : Nat) : Int) := by rw [IntKind.wrap_i64]; omega
      rw [hw]
      refine ⟨rfl, ⟨k + 1, _, _, _, _, _, _, _, _, _, _, _, by omega, by omega, ?_, rfl⟩, ?_⟩
      · have e : ls.take (k + 1) = ls.take k ++ [x] := by
          obtain ⟨hl, e⟩ := List.getElem?_eq_some_iff.1 HX.out
          rw [List.take_succ_eq_append_getElem hl, e]
        rw [e]
        exact HT2.out
      · simp [Act.eval, intOf]
        omega
  · have hkl : k = ls.length := by omega
    subst hkl
    (refine wpV_seq ?_)
    (refine wpV_region ?_; simp only [List.size_toArray, List.length_cons, List.length_nil, Nat.reduceAdd, Nat.zero_add, List.range, List.range.loop])
    (refine opsV_op_k rfl (by rfl) (fun B hn => opsH hn hgl (by first | rfl | kernel_rfl)) ?_; intro τ p K hK; go_simp; refine hK _ _ ?_; clear hK K p τ; (try walk_nrm))
    (refine opsV_nil ?_; (try dsimp only [thenV_normal, inBV_normal]))
    (refine wpV_seq ?_)
    (refine wpV_cond_f rfl ?_)
    (refine wpV_exit ?_; (try dsimp only [thenV_exit, inBV_exit, thenV_normal, inBV_normal, reduceIte]))
    (refine wpV_seq ?_)
    (refine wpV_region ?_; simp only [List.size_toArray, List.length_cons, List.length_nil, Nat.reduceAdd, Nat.zero_add, List.range, List.range.loop])
    (refine opsV_op_k rfl (by rfl) (fun B hn => opsH hn hgl (by first | rfl | kernel_rfl)) ?_; intro τ p K hK; go_simp; refine hK _ _ ?_; clear hK K p τ; (try walk_nrm))
    (refine opsV_nil ?_; (try dsimp only [thenV_normal, inBV_normal]))
    (refine wpV_ret ?_; (try dsimp only [thenV_ret, inBV_ret]))
    refine ⟨.inr rfl, rfl, _, resultsC_tmp (by rfl) _, HRES.out _ _ (.inl ⟨hk2, rfl, ?_⟩)⟩
    have := HT.out
    rwa [List.take_of_length_le (Nat.le_refl _)] at this
end
end Go.Proofs.YtmmjlngbiilagaaGreatDoor

/-
  THE PLAIN LAW: ascending lists of messages of valid streams are what the reference's Merge builds.
-/
namespace Go.Proofs.YtmmjlngbiilagaaGreatDoor
open Go Go.Conc Go.Shelf Go.RowKit Go.Lib Go.Sort

abbrev leM (x y : M4) : Prop := ¬ cmpMsg y x < 0
theorem asc_pw {ls : List M4} : Asc ls ↔ ls.Pairwise leM := by
  rw [List.pairwise_iff_getElem]
  constructor
  · exact fun h i j hi hj hij => h i j _ _ (List.getElem?_eq_getElem hi) (List.getElem?_eq_getElem hj) hij
  · intro h i j x y hx hy hij
    obtain ⟨hi, ex⟩ := List.getElem?_eq_some_iff.1 hx
    obtain ⟨hj, ey⟩ := List.getElem?_eq_some_iff.1 hy
    have := h i j hi hj hij
    rwa [ex, ey] at this
theorem cmp_eq' (x y : M4) : cmpMsg x y = if Lib.compareInt x.t y.t = 0 then (if Lib.compareBytes x.m.data.toList y.m.data.toList = 0 then Lib.compareInt x.s y.s else Lib.compareBytes x.m.data.toList y.m.data.toList) else Lib.compareInt x.t y.t := by
  simp only [cmpMsg, fnz]
  by_cases h1 : Lib.compareInt x.t y.t = 0 <;> by_cases h2 : Lib.compareBytes x.m.data.toList y.m.data.toList = 0 <;> by_cases h3 : Lib.compareInt x.s y.s = 0 <;> simp [h1, h2, h3]
theorem ci_zero {a b : Int} : Lib.compareInt a b = 0 ↔ a = b := by
  unfold Lib.compareInt
  by_cases h1 : a < b
  · rw [if_pos h1]; omega
  · rw [if_neg h1]
    by_cases h2 : a > b
    · rw [if_pos h2]; omega
    · rw [if_neg h2]; omega
theorem ci_lt {a b : Int} : Lib.compareInt a b < 0 ↔ a < b := by
  unfold Lib.compareInt
  by_cases h1 : a < b
  · rw [if_pos h1]; omega
  · rw [if_neg h1]
    by_cases h2 : a > b
    · rw [if_pos h2]; omega
    · rw [if_neg h2]; omega
theorem cb_zero {a b : ByteArray} : Lib.compareBytes a.data.toList b.data.toList = 0 ↔ a = b := ⟨fun h => bytes_list (cb_eq _ _ h), fun h => by subst h; exact tc_bytes.refl _⟩
theorem befB_cmp (x y : M4) : befB x y = decide (cmpMsg x y < 0) := by
  rw [cmp_eq']
  unfold befB bLt
  by_cases h1 : x.t = y.t
  · rw [if_neg (by simpa using h1), if_pos (ci_zero.2 h1)]
    by_cases h2 : x.m = y.m
    · rw [if_neg (by simpa using h2), if_pos (cb_zero.2 h2)]
      exact decide_eq_decide.2 ci_lt.symm
    · rw [if_pos h2, if_neg (fun h => h2 (cb_zero.1 h))]
  · rw [if_pos h1, if_neg (fun h => h1 (ci_zero.1 h))]
    exact decide_eq_decide.2 ci_lt.symm
theorem cmp_zero {x y : M4} (h : cmpMsg x y = 0) : x.t = y.t ∧ x.m = y.m ∧ x.s = y.s := by
  rw [cmp_eq'] at h
  by_cases h1 : Lib.compareInt x.t y.t = 0
  · rw [if_pos h1] at h
    by_cases h2 : Lib.compareBytes x.m.data.toList y.m.data.toList = 0
    · rw [if_pos h2] at h
      exact ⟨ci_zero.1 h1, cb_zero.1 h2, ci_zero.1 h⟩
    · rw [if_neg h2] at h
      exact absurd h h2
  · rw [if_neg h1] at h
    exact absurd h h1
theorem leM_total {x y : M4} (h : ¬ leM x y) : leM y x := fun h2 => by
  have h1 : cmpMsg y x < 0 := Classical.byContradiction h
  have := tc_msg.swap x y
  omega
theorem leM_trans {x y z : M4} (h1 : leM x y) (h2 : leM y z) : leM x z := fun h => by
  -- z < x
  have e1 : ¬ cmpMsg y x < 0 := h1
  have e2 : ¬ cmpMsg z y < 0 := h2
  by_cases e3 : cmpMsg x y = 0
  · have := tc_msg.eqr z e3
    omega
  · have e4 : cmpMsg x y < 0 := by have := tc_msg.swap x y; omega
    have := tc_msg.lt z x y h e4
    exact e2 this
theorem pos_split (l : List M4) (m : M4) : l.take (posL l m) = l.takeWhile (fun x => befB x m) ∧ l.drop (posL l m) = l.dropWhile (fun x => befB x m) := by
  unfold posL
  induction l with
  | nil => exact ⟨rfl, rfl⟩
  | cons y l ih =>
    by_cases h : befB y m = true
    · simp only [List.takeWhile_cons, List.dropWhile_cons, h, if_true, List.length_cons, List.take_succ_cons, List.drop_succ_cons]
      exact ⟨by rw [ih.1], ih.2⟩
    · simp [List.takeWhile_cons, List.dropWhile_cons, h]
theorem asc_ins {l : List M4} (m : M4) (h : l.Pairwise leM) : (insL l m).Pairwise leM := by
  unfold insL
  obtain ⟨e1, e2⟩ := pos_split l m
  have hl : l.take (posL l m) ++ l.drop (posL l m) = l := List.take_append_drop _ _
  have hp := h
  rw [← hl, List.pairwise_append] at hp
  obtain ⟨p1, p2, p3⟩ := hp
  have hA : ∀ a ∈ l.take (posL l m), leM a m := fun a ha => by
    rw [e1] at ha
    have hb : befB a m = true := List.all_eq_true.1 (List.all_takeWhile (p := fun x => befB x m) (l := l)) a ha
    rw [befB_cmp] at hb
    have := of_decide_eq_true hb
    have h2 := tc_msg.swap a m
    show ¬ cmpMsg m a < 0
    omega
  have hB : ∀ b ∈ l.drop (posL l m), leM m b := by
    rw [e2] at p2 ⊢
    cases hd : l.dropWhile (fun x => befB x m) with
    | nil => intro b hb; cases hb
    | cons y r =>
      rw [hd] at p2
      have hy : leM m y := by
        have h1 := List.head?_dropWhile_not (fun x => befB x m) l
        rw [hd] at h1
        simp only [List.head?_cons] at h1
        rw [befB_cmp] at h1
        have h2 : ¬ cmpMsg y m < 0 := of_decide_eq_false (by simpa using h1)
        exact h2
      intro b hb
      rcases List.mem_cons.1 hb with rfl | hb
      · exact hy
      · exact leM_trans hy ((List.pairwise_cons.1 p2).1 b hb)
  rw [List.append_assoc, List.pairwise_append]
  refine ⟨p1, ?_, fun a ha b hb => ?_⟩
  · rw [List.singleton_append, List.pairwise_cons]
    exact ⟨hB, p2⟩
  · rw [List.singleton_append] at hb
    rcases List.mem_cons.1 hb with rfl | hb
    · exact hA a ha
    · exact p3 a ha b hb
theorem asc_rmg (xs : List M4) : (rmg xs).Pairwise leM := by
  have key : ∀ (xs l : List M4), l.Pairwise leM → (xs.foldl insL l).Pairwise leM := by
    intro xs
    induction xs with
    | nil => exact fun _ h => h
    | cons x xs ih => exact fun l h => ih _ (asc_ins x h)
  exact key xs [] List.Pairwise.nil
/-- ONE ORDER ALONE. -/
theorem asc_one {ls ms : List M4} (hp : List.Perm ls ms) (ha : Asc ls) (hk : ∀ x ∈ ms, ∀ y ∈ ms, cmpMsg x y = 0 → x = y) : ls = rmg ms := by
  refine List.Perm.eq_of_pairwise (le := leM) (fun a b h1 h2 h3 h4 => ?_) (asc_pw.1 ha) (asc_rmg ms) (hp.trans (rmg_perm ms).symm)
  refine hk a (hp.mem_iff.1 h1) b ((rmg_perm ms).mem_iff.1 h2) ?_
  have e3 : ¬ cmpMsg b a < 0 := h3
  have e4 : ¬ cmpMsg a b < 0 := h4
  have := tc_msg.swap a b
  omega
theorem firstE_zero {f : Nat → Int} {n : Nat} (h : firstE f n 0 = 0) : ∀ k, k < n → f k = 0 := by
  intro k hk
  refine Classical.byContradiction fun hne => ?_
  have : ∃ j, j < n ∧ f j ≠ 0 ∧ ∀ i, i < j → f i = 0 := by
    induction k using Nat.strongRecOn with
    | _ k ih =>
      by_cases hx : ∃ i, i < k ∧ f i ≠ 0
      · obtain ⟨i, hi, hfi⟩ := hx
        exact ih i hi (by omega) hfi
      · exact ⟨k, hk, hne, fun i hi => Classical.byContradiction fun hc => hx ⟨i, hi, hc⟩⟩
  obtain ⟨j, h1, h2, h3⟩ := this
  exact h2 ((firstE_at h1 h3 h2).symm.trans h)
/-- What a valid list of streams says of its messages. -/
theorem valid_msgs {L : List Strm} (h : allE L = 0) {k : Nat} {s : Strm} (hs : L[k]? = some s) : memB s.mem = true ∧ (¬ Dup L k s.mem) ∧ ∀ (j : Nat) (x : M4), s.ms[j]? = some x → x.m = s.mem ∧ x.s = j + 1 := by
  have hk : k < L.length := (List.getElem?_eq_some_iff.1 hs).1
  have h0 := firstE_zero h k hk
  unfold roundA at h0
  rw [hs] at h0
  simp only at h0
  by_cases hc : chkE s = 0
  · rw [if_neg (by simpa using hc)] at h0
    by_cases hd : Dup L k s.mem
    · rw [if_pos hd] at h0; cases h0
    · unfold chkE at hc
      by_cases hm : memB s.mem = true
      · rw [if_pos hm] at hc
        refine ⟨hm, hd, fun j x hx => ?_⟩
        have hj : j < s.ms.length := (List.getElem?_eq_some_iff.1 hx).1
        have h1 := firstE_zero hc j hj
        unfold roundE at h1
        rw [hx] at h1
        simp only [msgE] at h1
        by_cases g1 : x.m = s.mem
        · refine ⟨g1, ?_⟩
          rw [if_neg (by simpa using g1)] at h1
          refine Classical.byContradiction fun g4 => ?_
          (repeat' split at h1) <;> first | cases h1 | (rename_i h _; exact g4 (by simpa using h)) | skip
          all_goals simp_all
        · rw [if_pos g1] at h1; cases h1
      · rw [if_neg hm] at hc; cases hc
  · rw [if_pos hc] at h0
    exact absurd h0 hc
theorem keys_apart {L : List Strm} (h : allE L = 0) : ∀ x ∈ L.flatMap (fun s => s.ms), ∀ y ∈ L.flatMap (fun s => s.ms), cmpMsg x y = 0 → x = y := by
  intro x hx y hy hxy
  obtain ⟨_, e2, e3⟩ := cmp_zero hxy
  obtain ⟨s, hs, hxs⟩ := List.mem_flatMap.1 hx
  obtain ⟨t, ht, hyt⟩ := List.mem_flatMap.1 hy
  obtain ⟨i, hi⟩ := List.mem_iff_getElem?.1 hs
  obtain ⟨j, hj⟩ := List.mem_iff_getElem?.1 ht
  obtain ⟨a, ha⟩ := List.mem_iff_getElem?.1 hxs
  obtain ⟨b, hb⟩ := List.mem_iff_getElem?.1 hyt
  obtain ⟨_, d1, v1⟩ := valid_msgs h hi
  obtain ⟨_, d2, v2⟩ := valid_msgs h hj
  obtain ⟨m1, q1⟩ := v1 a x ha
  obtain ⟨m2, q2⟩ := v2 b y hb
  have hm : s.mem = t.mem := by rw [← m1, ← m2, e2]
  have hij : i = j := by
    rcases Nat.lt_trichotomy i j with hlt | he | hlt
    · exact absurd ⟨i, s, hlt, hi, hm⟩ d2
    · exact he
    · exact absurd ⟨j, t, hlt, hj, hm.symm⟩ d1
  subst hij
  rw [hi] at hj
  cases hj
  have hab : a = b := by omega
  subst hab
  rw [ha] at hb
  exact Option.some.inj hb
theorem merged {L : List Strm} (h : allE L = 0) {ls : List M4} (hp : List.Perm ls (L.flatMap fun s => s.ms)) (ha : Asc ls) : ls = rmg (L.flatMap fun s => s.ms) := asc_one hp ha (keys_apart h)
end Go.Proofs.YtmmjlngbiilagaaGreatDoor
