/-
  GOROUTINE 0's WALK: Merge.
-/
import Derived.Test.YtmmjlngbiilagaaGreatDoorT20
import Derived.Stop.Asserts

namespace Go.Proofs.YtmmjlngbiilagaaGreatDoor
open Go Go.Conc Go.Shelf Go.RowKit Go.Lib

section
variable {V P : Program} {Gd : GB} {F : Nat → Prop} {v : World}
/-- A return. -/
theorem leaveV {Post : PostK} {f : FuncId} {fc : Func} {a : Act} {c : Frame} {cs : List Frame} {z : Value} (hf : P.funcs[f]? = some fc) (hres : fc.results.all resB = true) (ha : ∀ x ∈ a.tmps, PFg Gd x) (hd : a.defers = []) (hz : ResultsC P fc a.tmps z)
    (h : PFg Gd z → FineV V P Gd Post F (G (c.finish z) cs) v) (todo : List Item) : FineV V P Gd Post F (G { (base f).at a todo with mode := .returning } (c :: cs)) v := by
  obtain ⟨z', hpf, hz'⟩ := results_pure hres a.tmps
  have ez : z = z' := by
    have h1 := (hz v).1
    have h2 := congrArg Prod.fst (hz' P v #[])
    rw [Sem.runT_eq] at h2
    have h3 : (results fc a.tmps).run P v = .ok z' v := h2
    rw [h1] at h3
    cases h3
    rfl
  exact FineV.still rfl (fun w => stepG_leave (b := base f) rfl hd hf (hz w).1 (hz w).2) (h (ez ▸ hpf (cfgV V P Gd 0) ha))
end
noncomputable def code0M : Code := match bodyM with | .seq x _ => x | _ => .skip
noncomputable def code1M : Code := match bodyM with | .seq _ (.seq x _) => x | _ => .skip
theorem bodyM_eq : bodyM = .seq code0M (.seq code1M tail4M) := by
  simp only [code0M, code1M, tail4M, bodyM, Tryz.f16, Option.getD_some]
/-- Blocks below B are kept; no word of the tape. -/
structure Bl (B : Nat) (a b : World) : Prop where
  os : b.os = a.os
  output : b.output = a.output
  size : a.heap.size ≤ b.heap.size
  block : ∀ k, k < B → b.heap[k]? = a.heap[k]?
theorem Bl.of {B : Nat} {a b : World} (h : Below B a b) : Bl B a b := ⟨h.os, h.output, h.size, h.block⟩
theorem Bl.untp {B : Nat} {a b : World} {τ : Nat → Question → Nat} {p : Nat} (h : Below B (tp a τ p) b) : Bl B a b := ⟨h.os, h.output, h.size, h.block⟩
theorem Bl.refl (B : Nat) (a : World) : Bl B a a := ⟨rfl, rfl, Nat.le_refl _, fun _ _ => rfl⟩
theorem Bl.mono {B B' : Nat} {a b : World} (h : Bl B a b) (hB : B' ≤ B) : Bl B' a b := ⟨h.os, h.output, h.size, fun k hk => h.block k (by omega)⟩
theorem Bl.trans {B : Nat} {a b c : World} (h : Bl B a b) (h' : Bl B b c) : Bl B a c := ⟨h'.os.trans h.os, h'.output.trans h.output, Nat.le_trans h.size h'.size, fun k hk => (h'.block k hk).trans (h.block k hk)⟩
theorem Bl.alloc {B : Nat} {a b : World} (h : Bl B a b) (hB : B ≤ b.heap.size) (o : Obj) : Bl B a (b.alloc o) := h.trans ⟨rfl, rfl, by simp, fun k hk => Below.heap_alloc b o k (by omega)⟩
theorem Bl.setCell {B : Nat} {a b : World} (h : Bl B a b) {p : Addr} (hp : B ≤ p.block) (x : Value) : Bl B a (b.setCell p x) := h.trans ⟨rfl, rfl, by simp, fun k hk => Below.heap_setCell b p x k (by omega)⟩
theorem Bl.cell {B : Nat} {a b : World} (h : Bl B a b) {p : Addr} (hp : p.block < B) : b.cell? p = a.cell? p := by
  simp only [World.cell?]
  rw [h.block _ hp]
theorem Bl.range {B : Nat} {a b : World} (h : Bl B a b) {q o : Nat} {l : List Value} (hq : q < B) (hr : a.rangeAt q o l) : b.rangeAt q o l := fun j v hv => (h.cell (p := ⟨q, _, none⟩) hq).trans (hr j v hv)
theorem pf_call {Gd : GB} (hgl : ∀ g, glH g = true → Gd g) {a : Act} {args : Array Operand} (h : args.toList.all (opdH glH) = true) (hp : ∀ x ∈ a.tmps, PFg Gd x) : ∀ x ∈ (#[] ++ args.map a.eval ++ #[] : Array Value), PFg Gd x := fun x hx => by
  have hx' : x ∈ args.map a.eval := by simpa using hx
  obtain ⟨o, ho, rfl⟩ := Array.mem_map.1 hx'
  exact (evOk_of (K := cfgV Vh Tryz.prog Gd 0) hp).val (opdH_ok (K := cfgV Vh Tryz.prog Gd 0) (fun g hg => .inr (hgl g hg)) (List.all_eq_true.1 h o (by simpa using ho)))
def strm (x : St4) : Strm := ⟨x.mem, x.ms⟩
section
variable {Gd : GB} {F : Nat → Prop} {v : World} {sts : List St4} {A : Option Addr} {bst capS sb so kc : Nat}
theorem srow_sts (hst : ∀ (i : Nat) (x : St4), sts[i]? = some x → x.ok (fun b => b < v.heap.size) v) (hA0 : 0 < sts.length → A = some ⟨bst, 0, none⟩) (hrow : ∀ (i : Nat) (x : St4), sts[i]? = some x → v.rangeAt bst (i * 2) x.cells) : SRow v v.heap.size A (sts.map strm) := by
  rcases Nat.eq_zero_or_pos sts.length with h0 | h0
  · exact .inl (by rw [List.length_eq_zero_iff.1 h0]; rfl)
  · obtain ⟨y, hy⟩ : ∃ y, sts[0]? = some y := ⟨_, List.getElem?_eq_getElem h0⟩
    refine .inr ⟨bst, 0, hA0 h0, World.block_lt_of_cell? v _ (hrow 0 y hy 0 _ rfl), fun j x hx => ?_⟩
    rw [List.getElem?_map] at hx
    obtain ⟨s, hs, rfl⟩ := Option.map_eq_some_iff.1 hx
    have h := hst j s hs
    have r := hrow j s hs
    have e1 : (0 : Nat) + j * 2 = j * 2 + 0 := by omega
    have e2 : (0 : Nat) + j * 2 + 1 = j * 2 + 1 := by omega
    refine ⟨by rw [e1]; exact r 0 _ rfl, s.a0, s.cap, ?_, ?_⟩
    · rw [e2]
      have := r 1 _ rfl
      rw [← h.len] at this
      exact this
    · rcases Nat.eq_zero_or_pos s.n with hn | hn
      · exact .inl (List.length_eq_zero_iff.1 (by show s.ms.length = 0; rw [h.len]; exact hn))
      · refine .inr ⟨s.ba, 0, h.a0 hn, h.q hn, fun i y hy => ?_⟩
        have hr := h.el i y hy
        have e3 : ∀ q, (0 : Nat) + i * 4 + q = i * 4 + q := by omega
        exact ⟨by rw [show (0 : Nat) + i * 4 = i * 4 + 0 by omega]; exact hr 0 _ rfl, by rw [e3]; exact hr 1 _ rfl, by rw [e3]; exact hr 2 _ rfl, by rw [e3]; exact hr 3 _ rfl⟩
def MergeR (F : Nat → Prop) (v : World) (sts : List St4) (F' : Nat → Prop) (z : Value) (v' : World) : Prop :=
  (allE (sts.map strm) ≠ 0 ∧ F' = F ∧ z = .tuple #[.slice none 0 0, .int .i64 (allE (sts.map strm))] ∧ Bl v.heap.size v v') ∨ (allE (sts.map strm) = 0 ∧ ∃ v1, Bl v.heap.size v v1 ∧ MergeRes F v1 (msAll sts) F' z v')
set_option maxRecDepth 100000 in
set_option maxHeartbeats 4000000 in
theorem merge_callsV (hgl : ∀ g, glH g = true → Gd g) (hGF : ∀ b, ¬ Fm Gd F b → Gd b) (hk : KindsAt sb so kc v) (hf : Fits (sts.map strm)) (hsz : ∀ x ∈ sts, x.mem.size ≤ maxLen) (hA0 : 0 < sts.length → A = some ⟨bst, 0, none⟩)
    (hst : ∀ (i : Nat) (x : St4), sts[i]? = some x → x.ok (fun b => b < v.heap.size) v) (hrow : ∀ (i : Nat) (x : St4), sts[i]? = some x → v.rangeAt bst (i * 2) x.cells) :
    CallsV Vh Tryz.prog Gd 16 #[.slice A sts.length capS] F v (MergeR F v sts) := by
  intro Post c cs hargs hK
  have hp : ∀ x ∈ (#[.slice A sts.length capS] ++ Array.replicate (Tryz.f16.ntmps - (#[Value.slice A sts.length capS]).size) undef : Array Value), PFg Gd x := fun x hx => by
    rcases Array.mem_append.1 hx with hx | hx
    · exact hargs x hx
    · rw [(Array.mem_replicate.1 hx).2]
      exact PFv.undef (cfgV Vh Tryz.prog Gd 0)
  have e1 := enterV Tryz.func26 (by kernel_rfl) (by kernel_rfl) rfl
  have hS : SRow v v.heap.size A (sts.map strm) := srow_sts hst hA0 hrow
  have hchk : CallsV Vh Tryz.prog Gd 26 #[.slice A sts.length capS] F v fun F' z v' => F' = F ∧ z = .int .i64 (allE (sts.map strm)) ∧ Bl v.heap.size v v' :=
    callsV_calls (fun B hn => pruneH hn hgl) Tryz.func26 (Vh.fn Tryz.func26 (by kernel_rfl)) rfl fun τ p =>
      (gall_calls sb so kc A sts.length capS (sts.map strm) (tp v τ p) ⟨hk.kinds, hk.spans⟩ hS (by simp) hf (fun x hx => by obtain ⟨y, hy, rfl⟩ := List.mem_map.1 hx; exact hsz y hy)).mono fun e w' ⟨h1, h2⟩ => ⟨_, h1, rfl, Bl.untp h2⟩
  rw [enter_at (c := bodyM) _ Tryz.func16 (by rfl)]
  simp only [Tryz.ntmps16, List.size_toArray, List.length_cons, List.length_nil, Nat.reduceAdd, Nat.reduceSub, Array.replicate_succ, Array.replicate_zero, List.push_toArray, List.append_toArray, List.nil_append, List.cons_append] at hp ⊢
  rw [bodyM_eq]
  refine FineV.still rfl (fun _ => stepG_seq) ?_
  have h0 : WpV Vh Tryz.prog Gd 16 code0M (fun F' e a' v' => e = .normal ∧ F' = F ∧ v' = v ∧ a' = ⟨(.slice A sts.length capS :: undef :: .slice none 0 0 :: .int .i64 0 :: undef :: undef :: undef :: undef :: undef :: undef :: undef :: undef :: undef :: undef :: undef :: undef :: undef :: undef :: undef :: undef :: undef :: undef :: undef :: undef :: undef :: undef :: undef :: undef :: undef :: undef :: undef :: []).toArray, []⟩) F ⟨(.slice A sts.length capS :: undef :: undef :: undef :: undef :: undef :: undef :: undef :: undef :: undef :: undef :: undef :: undef :: undef :: undef :: undef :: undef :: undef :: undef :: undef :: undef :: undef :: undef :: undef :: undef :: undef :: undef :: undef :: undef :: undef :: undef :: []).toArray, []⟩ v := by
    simp only [code0M, bodyM, Tryz.f16, Option.getD_some]
    (refine wpV_region ?_; simp only [List.size_toArray, List.length_cons, List.length_nil, Nat.reduceAdd, Nat.zero_add, List.range, List.range.loop])
    (refine opsV_op_k rfl (by rfl) (fun B hn => opsH hn hgl (by rfl)) ?_; intro τ p K hK; go_simp; refine hK _ _ ?_; clear hK K p τ; (try walk_nrm))
    (refine opsV_op_k rfl (by rfl) (fun B hn => opsH hn hgl (by rfl)) ?_; intro τ p K hK; go_simp; refine hK _ _ ?_; clear hK K p τ; (try walk_nrm))
    (refine opsV_nil ?_; (try dsimp only [thenV_normal, inBV_normal]))
    exact ⟨rfl, rfl, rfl, rfl⟩
  refine h0 Post (base 16) [.code (.seq code1M tail4M)] (c :: cs) rfl rfl hp fun F' e a' v' hp' q => ?_
  obtain ⟨rfl, rfl, rfl, rfl⟩ := q
  refine FineV.still rfl (fun _ => stepG_seq) ?_
  obtain ⟨E, hE⟩ : ∃ E, allE (sts.map strm) = E := ⟨_, rfl⟩
  rw [hE] at hchk
  have h1 : WpV Vh Tryz.prog Gd 16 code1M (fun F'' e a' v1 => F'' = F' ∧ Bl v'.heap.size v' v1 ∧ a'.defers = [] ∧ ((e = .normal ∧ E = 0 ∧ a'.tmps.size = 31 ∧ a'.tmps[0]? = some (.slice A sts.length capS)) ∨ (e = .ret ∧ E ≠ 0 ∧ a'.tmps.getD 2 undef = .slice none 0 0 ∧ a'.tmps.getD 3 undef = .int .i64 E))) F' ⟨(.slice A sts.length capS :: undef :: .slice none 0 0 :: .int .i64 0 :: undef :: undef :: undef :: undef :: undef :: undef :: undef :: undef :: undef :: undef :: undef :: undef :: undef :: undef :: undef :: undef :: undef :: undef :: undef :: undef :: undef :: undef :: undef :: undef :: undef :: undef :: undef :: []).toArray, []⟩ v' := by
    clear hK hp hp'
    simp only [code1M, bodyM, Tryz.f16, Option.getD_some]
    refine wpV_seq ?_
    (refine wpV_region ?_; simp only [List.size_toArray, List.length_cons, List.length_nil, Nat.reduceAdd, Nat.zero_add, List.range, List.range.loop])
    (refine opsV_op_k rfl (by rfl) (fun B hn => opsH hn hgl (by rfl)) ?_; intro τ p K hK; go_simp; refine hK _ _ ?_; clear hK K p τ; (try walk_nrm))
    (refine opsV_enter (R := ?R7) rfl (by rfl) (run_callV rfl rfl Tryz.func26 (by kernel_rfl) rfl) (pf_call hgl (by rfl)) ?hc7 ?hn7; case hc7 => (walk_nrm; exact hchk))
    rintro F2 z v1 ⟨rfl, rfl, hbl⟩
    walk_nrm
    (refine opsV_op_k rfl (by rfl) (fun B hn => opsH hn hgl (by rfl)) ?_; intro τ p K hK; go_simp; refine hK _ _ ?_; clear hK K p τ; (try walk_nrm))
    (refine opsV_nil ?_; (try dsimp only [thenV_normal, inBV_normal]))
    refine wpV_seq ?_
    by_cases hE0 : E = 0
    · subst hE0
      (refine wpV_region ?_; simp only [List.size_toArray, List.length_cons, List.length_nil, Nat.reduceAdd, Nat.zero_add, List.range, List.range.loop])
      (refine opsV_op_k rfl (by rfl) (fun B hn => opsH hn hgl (by rfl)) ?_; intro τ p K hK; go_simp; refine hK _ _ ?_; clear hK K p τ; (try walk_nrm))
      (refine opsV_op_k rfl (by rfl) (fun B hn => opsH hn hgl (by rfl)) ?_; intro τ p K hK; go_simp; refine hK _ _ ?_; clear hK K p τ; (try walk_nrm))
      (refine opsV_nil ?_; (try dsimp only [thenV_normal, inBV_normal]))
      (refine wpV_cond_f rfl ?_)
      (refine wpV_skip ?_; (try dsimp only [thenV_normal, inBV_normal]))
      exact ⟨rfl, hbl, rfl, .inl ⟨rfl, by first | trivial | rfl, by first | trivial | rfl, by first | trivial | rfl⟩⟩
    · have hE1 : (E != 0) = true := by simpa using hE0
      (refine wpV_region ?_; simp only [List.size_toArray, List.length_cons, List.length_nil, Nat.reduceAdd, Nat.zero_add, List.range, List.range.loop])
      (refine opsV_op_k rfl (by rfl) (fun B hn => opsH hn hgl (by rfl)) ?_; intro τ p K hK; go_simp; refine hK _ _ ?_; clear hK K p τ; (try walk_nrm))
      (refine opsV_op_k rfl (by rfl) (fun B hn => opsH hn hgl (by rfl)) ?_; intro τ p K hK; go_simp; refine hK _ _ ?_; clear hK K p τ; (try walk_nrm))
      (refine opsV_nil ?_; (try dsimp only [thenV_normal, inBV_normal]))
      (refine wpV_cond_t rfl ?_)
      refine wpV_seq ?_
      (refine wpV_region ?_; simp only [List.size_toArray, List.length_cons, List.length_nil, Nat.reduceAdd, Nat.zero_add, List.range, List.range.loop])
      (refine opsV_op_k rfl (by rfl) (fun B hn => opsH hn hgl (by rfl)) ?_; intro τ p K hK; go_simp; refine hK _ _ ?_; clear hK K p τ; (try walk_nrm))
      (refine opsV_op_k rfl (by rfl) (fun B hn => opsH hn hgl (by rfl)) ?_; intro τ p K hK; go_simp; refine hK _ _ ?_; clear hK K p τ; (try walk_nrm))
      (refine opsV_op_k rfl (by rfl) (fun B hn => opsH hn hgl (by rfl)) ?_; intro τ p K hK; go_simp; refine hK _ _ ?_; clear hK K p τ; (try walk_nrm))
      (refine opsV_nil ?_; (try dsimp only [thenV_normal, inBV_normal]))
      (refine wpV_ret ?_; (try dsimp only [thenV_ret, inBV_ret]))
      exact ⟨rfl, hbl, rfl, .inr ⟨rfl, hE0, rfl, rfl⟩⟩
  refine h1 Post (base 16) [.code tail4M] (c :: cs) rfl rfl hp' fun F'' e a2 v1 hp2 q => ?_
  obtain ⟨rfl, hbl, hdf, q⟩ := q
  rcases q with ⟨rfl, rfl, hsz31, ht0⟩ | ⟨rfl, hE0, h2, h3⟩
  · obtain ⟨T, ds⟩ := a2
    cases hdf
    refine fineV_tail (sts := sts) hGF (by have := hf.1; simpa using this) ?_ T hsz31 ht0 hA0 (fun i x hx => ?_) (fun i x hx => ?_) (fun F2 z v2 hz hm => hK F2 z v2 hz (.inr ⟨hE, v1, hbl, hm⟩))
    · have h := hf.2
      have e : (msAll sts).length = tot (sts.map strm) := by
        simp [msAll, tot, List.length_flatMap, strm, Function.comp_def]
      omega
    · have h := hst i x hx
      exact ⟨h.len, h.n63, h.a0, fun h0 => Nat.lt_of_lt_of_le (h.q h0) hbl.size, fun j y hy => hbl.range (World.block_lt_of_cell? _ ⟨x.ba, j * 4 + 0, none⟩ (h.el j y hy 0 _ rfl)) (h.el j y hy)⟩
    · have h := hrow i x hx
      exact hbl.range (World.block_lt_of_cell? _ ⟨bst, i * 2 + 0, none⟩ (h 0 _ rfl)) h
  · refine leaveV (fc := Tryz.f16) Tryz.func16 (by kernel_rfl) hp2 hdf ?_ fun hz => hK F'' (.tuple #[.slice none 0 0, .int .i64 E]) v1 hz (.inl ⟨by rw [hE]; exact hE0, rfl, by rw [hE], hbl⟩)
    have := resultsC_tmp2 (P := Tryz.prog) (fn := Tryz.f16) (by rfl) a2.tmps
    rwa [h2, h3] at this
end
end Go.Proofs.YtmmjlngbiilagaaGreatDoor

/-
  errors.As, errors.Is: closed facts on the model's entries at this program's numbers; laws on the entries that read or write.
-/
namespace Go.Proofs.YtmmjlngbiilagaaGreatDoor
open Go Go.Conc Go.Extern Go.Stop

abbrev xev (f : Nat) : Event := ⟨.mark (.extern f), false, true⟩
abbrev lev (a : Addr) : Event := ⟨.cell a, false, false⟩
abbrev sev (a : Addr) : Event := ⟨.cell a, true, false⟩
/-- A type's handle, as an rtype, as a Value. -/
abbrev hdl (t : Nat) : Value := .pointer (some ⟨6, t, none⟩)
abbrev rty (t : Nat) : Value := .iface 98 (.agg #[hdl t])
abbrev rva (t : Nat) (a : Addr) (fl : Nat) : Value := .agg #[hdl t, .pointer (some a), .int .u64 fl]
section
variable {P : Program} {α β : Type} {w w' : World} {es es' : Array Event} {a : Addr} {x : Value}
theorem runT_bd {s : Sem α} {f : α → Sem β} {y : α} (h : s.runT P w es = (.ok y w', es')) : (s.bind f).runT P w es = (f y).runT P w' es' := by rw [Sem.runT_bind', h]
theorem runT_ext {f : Nat} {fn : Func} {e : Array Value → Sem Value} {args : Array Value} (hf : P.funcs[f]? = some fn) (hn : (fn.name == "runtime.NumGoroutine") = false) (hb : fn.body.isNone = true) (hx : (Extern.findNext fn).isNone = true) (he : Extern.find fn = some e)
    (h : (e args).runT P w #[xev f] = (.ok x w', es)) : (callFunc f args).runT P w #[] = (.ok (.value x) w', es) := by
  have hx' : Extern.findNext fn = none := by simpa using hx
  unfold callFunc
  show (Sem.program _).runT P w #[] = _
  rw [Sem.runT]
  simp only [Sem.bind, hf, hn, hb, Bool.false_eq_true, if_false, if_true, hx', he]
  show ((e args).bind _).runT P w #[xev f] = _
  rw [runT_bd h]
  rfl
theorem runT_ld (h : w.cell? a = some x) : (Sem.load .plain a Sem.pure).runT P w es = (.ok x w, es.push (lev a)) := by
  rw [Sem.runT, h]
  rfl
theorem runT_st {p : Addr} {old : Value} (ho : w.cell? a = some old) (hf : w.frozen? a = false) : (Sem.store .plain a (.pointer (some p)) (Sem.pure ())).runT P w es = (.ok () (w.setCell a (.pointer (some p))), es.push (sev a)) := by
  rw [Sem.runT, ho]
  simp only [hf, Bool.false_eq_true, if_false]
  rfl
  all_goals (intro x h; cases h)
theorem rlm (z : Sem Value) (f : TypeId → Addr → Nat → Nat → Sem Value) (v : Value) :
    ReflectliteValue.method z f #[v] = (do match ← ReflectliteValue.parts v with | none => z | some (t, a, fl) => f t a fl (fl % 32)) := rfl
end
theorem vo39 (t : Addr) (w : World) : (callFunc 18 #[.iface 39 (.pointer (some t))]).runT Tryz.prog w #[] = (.ok (.value (rva 39 ⟨w.heap.size, 0, none⟩ 150)) (w.alloc (.cells #[.pointer (some t)] 39)), #[xev 18]) := by kernel_rfl
theorem ty39 (a : Addr) (w : World) : (callFunc 19 #[rva 39 a 150]).runT Tryz.prog w #[] = (.ok (.value (rty 39)) w, #[xev 19]) := by kernel_rfl
theorem kd39 (w : World) : (callMethod (rty 39) "Kind" #[]).runT Tryz.prog w #[] = (.ok (.value (.int .u8 22)) w, #[xev 126]) := by kernel_rfl
theorem kd35 (w : World) : (callMethod (rty 35) "Kind" #[]).runT Tryz.prog w #[] = (.ok (.value (.int .u8 22)) w, #[xev 126]) := by kernel_rfl
theorem el39 (w : World) : (callMethod (rty 39) "Elem" #[]).runT Tryz.prog w #[] = (.ok (.value (rty 35)) w, #[xev 137]) := by kernel_rfl
theorem im35 (w : World) : (callMethod (rty 35) "Implements" #[rty 32]).runT Tryz.prog w #[] = (.ok (.value (.bool true)) w, #[xev 138]) := by kernel_rfl
theorem to35 (v : Value) (w : World) : (callFunc 24 #[.iface 35 v]).runT Tryz.prog w #[] = (.ok (.value (rty 35)) w, #[xev 24]) := by kernel_rfl
theorem as35 (w : World) : (callMethod (rty 35) "AssignableTo" #[rty 35]).runT Tryz.prog w #[] = (.ok (.value (.bool true)) w, #[xev 135]) := by kernel_rfl
theorem vo35 (e : Addr) (w : World) : (callFunc 18 #[.iface 35 (.pointer (some e))]).runT Tryz.prog w #[] = (.ok (.value (rva 35 ⟨w.heap.size, 0, none⟩ 150)) (w.alloc (.cells #[.pointer (some e)] 35)), #[xev 18]) := by kernel_rfl
theorem ld39 {a : Addr} {w : World} {x : Value} (h : w.cell? a = some x) (es : Array Event) : (loadVar 39 a).runT Tryz.prog w es = (.ok x w, es.push (lev a)) :=
  (show (loadVar 39 a).runT Tryz.prog w es = (Sem.load .plain a Sem.pure).runT Tryz.prog w es by kernel_rfl).trans (runT_ld h)
theorem ld35 {a : Addr} {w : World} {x : Value} (h : w.cell? a = some x) (es : Array Event) : (loadVar 35 a).runT Tryz.prog w es = (.ok x w, es.push (lev a)) :=
  (show (loadVar 35 a).runT Tryz.prog w es = (Sem.load .plain a Sem.pure).runT Tryz.prog w es by kernel_rfl).trans (runT_ld h)
theorem pt39 (a : Addr) (w : World) (es : Array Event) : (ReflectliteValue.parts (rva 39 a 150)).runT Tryz.prog w es = (.ok (some (39, a, 150)) w, es) := by kernel_rfl
theorem pta35 (a : Addr) (w : World) (es : Array Event) : (ReflectliteValue.parts (rva 35 a 406)).runT Tryz.prog w es = (.ok (some (35, a, 406)) w, es) := by kernel_rfl
theorem pt35 (a : Addr) (w : World) (es : Array Event) : (ReflectliteValue.parts (rva 35 a 150)).runT Tryz.prog w es = (.ok (some (35, a, 150)) w, es) := by kernel_rfl
theorem nl39 {a p : Addr} {w : World} (h : w.cell? a = some (.pointer (some p))) : (callFunc 20 #[rva 39 a 150]).runT Tryz.prog w #[] = (.ok (.value (.bool false)) w, #[xev 20, lev a]) := by
  refine runT_ext Tryz.func20 (by kernel_rfl) (by kernel_rfl) (by kernel_rfl) (by kernel_rfl) (e := ReflectliteValue.method (ReflectliteValue.valueError "reflectlite.Value.IsNil" 0) ReflectliteValue.isNil) ?_
  rw [rlm]
  refine (runT_bd (pt39 a w _)).trans ?_
  show (ReflectliteValue.isNil 39 a 150 22).runT Tryz.prog w _ = _
  exact (runT_bd (ld39 h _)).trans rfl
theorem et39 (w : World) (es : Array Event) : (Rtype.elem? 39).runT Tryz.prog w es = (.ok (some 35) w, es) := by kernel_rfl
theorem mk35 (p : Addr) (w : World) (es : Array Event) : (ReflectliteValue.mk 35 p ReflectliteValue.flagAddr).runT Tryz.prog w es = (.ok (rva 35 p 406) w, es) := by kernel_rfl
theorem ev39 {a p : Addr} {w : World} (h : w.cell? a = some (.pointer (some p))) : (callFunc 35 #[rva 39 a 150]).runT Tryz.prog w #[] = (.ok (.value (rva 35 p 406)) w, #[xev 35, lev a]) := by
  refine runT_ext Tryz.func35 (by kernel_rfl) (by kernel_rfl) (by kernel_rfl) (by kernel_rfl) (e := ReflectliteValue.method (ReflectliteValue.valueError "reflectlite.Value.Elem" 0) ReflectliteValue.elem) ?_
  rw [rlm]
  refine (runT_bd (pt39 a w _)).trans ?_
  show (ReflectliteValue.elem 39 a 150 22).runT Tryz.prog w _ = _
  refine (runT_bd (ld39 h _)).trans ?_
  refine (runT_bd (et39 w _)).trans ?_
  exact mk35 p w _
theorem da35 (w : World) (es : Array Event) : (Rtype.directlyAssignable 35 35).runT Tryz.prog w es = (.ok true w, es) := by kernel_rfl
theorem sv35 {a p : Addr} {old : Value} {w : World} (ho : w.cell? a = some old) (hf : w.frozen? a = false) (es : Array Event) : (storeVar 35 a (.pointer (some p))).runT Tryz.prog w es = (.ok () (w.setCell a (.pointer (some p))), es.push (sev a)) :=
  (show (storeVar 35 a (.pointer (some p))).runT Tryz.prog w es = (Sem.store .plain a (.pointer (some p)) (Sem.pure ())).runT Tryz.prog w es by kernel_rfl).trans (runT_st ho hf)
theorem st35 {a b p : Addr} {old : Value} {w : World} (hb : w.cell? b = some (.pointer (some p))) (ho : w.cell? a = some old) (hf : w.frozen? a = false) :
    (callFunc 36 #[rva 35 a 406, rva 35 b 150]).runT Tryz.prog w #[] = (.ok (.value (.tuple #[])) (w.setCell a (.pointer (some p))), #[xev 36, lev b, sev a]) := by
  refine runT_ext Tryz.func36 (by kernel_rfl) (by kernel_rfl) (by kernel_rfl) (by kernel_rfl) (e := ReflectliteValue.set) ?_
  refine (runT_bd (pta35 a w _)).trans ?_
  refine (runT_bd (pt35 b w _)).trans ?_
  refine (runT_bd (ld35 hb _)).trans ?_
  refine (runT_bd (da35 w _)).trans ?_
  exact (runT_bd (sv35 ho hf _)).trans rfl
theorem vo47 (t : Addr) (w : World) : (callFunc 18 #[.iface 47 (.pointer (some t))]).runT Tryz.prog w #[] = (.ok (.value (rva 47 ⟨w.heap.size, 0, none⟩ 150)) (w.alloc (.cells #[.pointer (some t)] 47)), #[xev 18]) := by kernel_rfl
theorem ty47 (a : Addr) (w : World) : (callFunc 19 #[rva 47 a 150]).runT Tryz.prog w #[] = (.ok (.value (rty 47)) w, #[xev 19]) := by kernel_rfl
theorem kd47 (w : World) : (callMethod (rty 47) "Kind" #[]).runT Tryz.prog w #[] = (.ok (.value (.int .u8 22)) w, #[xev 126]) := by kernel_rfl
theorem kd36 (w : World) : (callMethod (rty 36) "Kind" #[]).runT Tryz.prog w #[] = (.ok (.value (.int .u8 22)) w, #[xev 126]) := by kernel_rfl
theorem el47 (w : World) : (callMethod (rty 47) "Elem" #[]).runT Tryz.prog w #[] = (.ok (.value (rty 36)) w, #[xev 137]) := by kernel_rfl
theorem im36 (w : World) : (callMethod (rty 36) "Implements" #[rty 32]).runT Tryz.prog w #[] = (.ok (.value (.bool true)) w, #[xev 138]) := by kernel_rfl
theorem to36 (v : Value) (w : World) : (callFunc 24 #[.iface 36 v]).runT Tryz.prog w #[] = (.ok (.value (rty 36)) w, #[xev 24]) := by kernel_rfl
theorem as36 (w : World) : (callMethod (rty 36) "AssignableTo" #[rty 36]).runT Tryz.prog w #[] = (.ok (.value (.bool true)) w, #[xev 135]) := by kernel_rfl
theorem vo36 (e : Addr) (w : World) : (callFunc 18 #[.iface 36 (.pointer (some e))]).runT Tryz.prog w #[] = (.ok (.value (rva 36 ⟨w.heap.size, 0, none⟩ 150)) (w.alloc (.cells #[.pointer (some e)] 36)), #[xev 18]) := by kernel_rfl
theorem ld47 {a : Addr} {w : World} {x : Value} (h : w.cell? a = some x) (es : Array Event) : (loadVar 47 a).runT Tryz.prog w es = (.ok x w, es.push (lev a)) :=
  (show (loadVar 47 a).runT Tryz.prog w es = (Sem.load .plain a Sem.pure).runT Tryz.prog w es by kernel_rfl).trans (runT_ld h)
theorem ld36 {a : Addr} {w : World} {x : Value} (h : w.cell? a = some x) (es : Array Event) : (loadVar 36 a).runT Tryz.prog w es = (.ok x w, es.push (lev a)) :=
  (show (loadVar 36 a).runT Tryz.prog w es = (Sem.load .plain a Sem.pure).runT Tryz.prog w es by kernel_rfl).trans (runT_ld h)
theorem pt47 (a : Addr) (w : World) (es : Array Event) : (ReflectliteValue.parts (rva 47 a 150)).runT Tryz.prog w es = (.ok (some (47, a, 150)) w, es) := by kernel_rfl
theorem pta36 (a : Addr) (w : World) (es : Array Event) : (ReflectliteValue.parts (rva 36 a 406)).runT Tryz.prog w es = (.ok (some (36, a, 406)) w, es) := by kernel_rfl
theorem pt36 (a : Addr) (w : World) (es : Array Event) : (ReflectliteValue.parts (rva 36 a 150)).runT Tryz.prog w es = (.ok (some (36, a, 150)) w, es) := by kernel_rfl
theorem nl47 {a p : Addr} {w : World} (h : w.cell? a = some (.pointer (some p))) : (callFunc 20 #[rva 47 a 150]).runT Tryz.prog w #[] = (.ok (.value (.bool false)) w, #[xev 20, lev a]) := by
  refine runT_ext Tryz.func20 (by kernel_rfl) (by kernel_rfl) (by kernel_rfl) (by kernel_rfl) (e := ReflectliteValue.method (ReflectliteValue.valueError "reflectlite.Value.IsNil" 0) ReflectliteValue.isNil) ?_
  rw [rlm]
  refine (runT_bd (pt47 a w _)).trans ?_
  show (ReflectliteValue.isNil 47 a 150 22).runT Tryz.prog w _ = _
  exact (runT_bd (ld47 h _)).trans rfl
theorem et47 (w : World) (es : Array Event) : (Rtype.elem? 47).runT Tryz.prog w es = (.ok (some 36) w, es) := by kernel_rfl
theorem mk36 (p : Addr) (w : World) (es : Array Event) : (ReflectliteValue.mk 36 p ReflectliteValue.flagAddr).runT Tryz.prog w es = (.ok (rva 36 p 406) w, es) := by kernel_rfl
theorem ev47 {a p : Addr} {w : World} (h : w.cell? a = some (.pointer (some p))) : (callFunc 35 #[rva 47 a 150]).runT Tryz.prog w #[] = (.ok (.value (rva 36 p 406)) w, #[xev 35, lev a]) := by
  refine runT_ext Tryz.func35 (by kernel_rfl) (by kernel_rfl) (by kernel_rfl) (by kernel_rfl) (e := ReflectliteValue.method (ReflectliteValue.valueError "reflectlite.Value.Elem" 0) ReflectliteValue.elem) ?_
  rw [rlm]
  refine (runT_bd (pt47 a w _)).trans ?_
  show (ReflectliteValue.elem 47 a 150 22).runT Tryz.prog w _ = _
  refine (runT_bd (ld47 h _)).trans ?_
  refine (runT_bd (et47 w _)).trans ?_
  exact mk36 p w _
theorem da36 (w : World) (es : Array Event) : (Rtype.directlyAssignable 36 36).runT Tryz.prog w es = (.ok true w, es) := by kernel_rfl
theorem sv36 {a p : Addr} {old : Value} {w : World} (ho : w.cell? a = some old) (hf : w.frozen? a = false) (es : Array Event) : (storeVar 36 a (.pointer (some p))).runT Tryz.prog w es = (.ok () (w.setCell a (.pointer (some p))), es.push (sev a)) :=
  (show (storeVar 36 a (.pointer (some p))).runT Tryz.prog w es = (Sem.store .plain a (.pointer (some p)) (Sem.pure ())).runT Tryz.prog w es by kernel_rfl).trans (runT_st ho hf)
theorem st36 {a b p : Addr} {old : Value} {w : World} (hb : w.cell? b = some (.pointer (some p))) (ho : w.cell? a = some old) (hf : w.frozen? a = false) :
    (callFunc 36 #[rva 36 a 406, rva 36 b 150]).runT Tryz.prog w #[] = (.ok (.value (.tuple #[])) (w.setCell a (.pointer (some p))), #[xev 36, lev b, sev a]) := by
  refine runT_ext Tryz.func36 (by kernel_rfl) (by kernel_rfl) (by kernel_rfl) (by kernel_rfl) (e := ReflectliteValue.set) ?_
  refine (runT_bd (pta36 a w _)).trans ?_
  refine (runT_bd (pt36 b w _)).trans ?_
  refine (runT_bd (ld36 hb _)).trans ?_
  refine (runT_bd (da36 w _)).trans ?_
  exact (runT_bd (sv36 ho hf _)).trans rfl
theorem as3635 (w : World) : (callMethod (rty 36) "AssignableTo" #[rty 35]).runT Tryz.prog w #[] = (.ok (.value (.bool false)) w, #[xev 135]) := by kernel_rfl
theorem as5535 (w : World) : (callMethod (rty 55) "AssignableTo" #[rty 35]).runT Tryz.prog w #[] = (.ok (.value (.bool false)) w, #[xev 135]) := by kernel_rfl
theorem to55 (v : Value) (w : World) : (callFunc 24 #[.iface 55 v]).runT Tryz.prog w #[] = (.ok (.value (rty 55)) w, #[xev 24]) := by kernel_rfl
theorem un36 (p : Addr) (w : World) : (callMethod (.iface 36 (.pointer (some p))) "Unwrap" #[]).runT Tryz.prog w #[] = (.ok (.enter 129 #[.pointer (some p)]) w, #[]) := by kernel_rfl
theorem er55 (w : World) : (callMethod (.iface 55 (.agg #[])) "Error" #[]).runT Tryz.prog w #[] = (.ok (.enter 130 #[.agg #[]]) w, #[]) := by kernel_rfl
theorem cp55 (w : World) : (callMethod (rty 55) "Comparable" #[]).runT Tryz.prog w #[] = (.ok (.value (.bool true)) w, #[xev 136]) := by kernel_rfl
/-- A type assertion that fails. -/
theorem ta_no {t xT u : TypeId} {want : Array (String × TypeId)} {z v : Value} (hu : Tryz.prog.underlying u = some (.interface want)) (h : (Tryz.prog.info? t).map (fun i => (lacking want i.methods).isEmpty) = some false) (hz : (Tryz.prog.info? u).map (·.zero) = some (some z)) (w : World) :
    (Instr.typeAssert (.iface t v) xT u true).runT Tryz.prog w #[] = (.ok (.tuple #[z, .bool false]) w, #[]) := by
  obtain ⟨i, hi, hl⟩ := Option.map_eq_some_iff.1 h
  obtain ⟨j, hj, hz'⟩ := Option.map_eq_some_iff.1 hz
  obtain ⟨m, hm⟩ := missingMethod_some (want := want) (got := i.methods) (fun e => by rw [e] at hl; cases hl)
  have hti : ∀ es, (typeInfo t).runT Tryz.prog w es = (.ok i w, es) := fun es => by simp [typeInfo, hi, Sem.events_bind]
  have hzv : ∀ es, (zeroValue u).runT Tryz.prog w es = (.ok z w, es) := fun es => by simp [zeroValue, typeInfo, hj, hz', Sem.events_bind]
  have hun : ∀ es, (underlying u).runT Tryz.prog w es = (.ok (.interface want) w, es) := fun es => by simp [run_underlying hu]
  unfold Instr.typeAssert
  refine (runT_bd (hun _)).trans ?_
  refine (runT_bd (hti _)).trans ?_
  simp only [hm, if_true]
  refine (runT_bd (hzv _)).trans ?_
  rfl
end Go.Proofs.YtmmjlngbiilagaaGreatDoor

/-
  GOROUTINE 0's WALK: errors.As at a target of the error's own type.
-/
namespace Go.Proofs.YtmmjlngbiilagaaGreatDoor
open Go Go.Conc Go.Shelf Go.RowKit Go.Lib

/-- Cell t is set; other blocks are kept. -/
structure SetAt (t : Addr) (x : Value) (v v' : World) : Prop where
  os : v'.os = v.os
  output : v'.output = v.output
  size : v.heap.size ≤ v'.heap.size
  block : ∀ k, k < v.heap.size → k ≠ t.block → v'.heap[k]? = v.heap[k]?
  at_ : v'.heap[t.block]? = (v.setCell t x).heap[t.block]?
theorem SetAt.of {t : Addr} {x : Value} {v u : World} (h : Bl v.heap.size v u) (ht : t.block < v.heap.size) : SetAt t x v (u.setCell t x) := by
  refine ⟨h.os, h.output, by simpa using h.size, fun k hk hne => ?_, ?_⟩
  · rw [Below.heap_setCell u t x k hne]
    exact h.block k hk
  · simp only [World.setCell, Array.getElem?_modify, if_true]
    rw [h.block _ ht]
theorem pf_hdl {Gd : GB} (h6 : Gd 6) (t : Nat) : PF Gd (hdl t) := .ptr h6
theorem pf_rty {Gd : GB} (h6 : Gd 6) (t : Nat) : PFg Gd (rty t) := .inr (.iface _ (.agg fun x hx => by simp only [List.mem_toArray, List.mem_singleton] at hx; subst hx; exact pf_hdl h6 t))
theorem pf_rva {Gd : GB} (h6 : Gd 6) (t : Nat) {a : Addr} (ha : Gd a.block) (fl : Nat) : PFg Gd (rva t a fl) := .inr (.agg fun x hx => by
  simp only [List.mem_toArray, List.mem_cons, List.not_mem_nil, or_false] at hx
  rcases hx with rfl | rfl | rfl
  · exact pf_hdl h6 t
  · exact .ptr ha
  · exact .int _ _)
/-- What the variable errors.errorType holds. -/
def ErrT (v : World) : Prop := v.cell? ⟨0, 0, none⟩ = some (rty 32)
def UNDEFS (n : Nat) : List Value := List.replicate n undef
theorem voN35 (e : Addr) (w : World) {n : Nat} (h : w.heap.size = n) : (callFunc 18 #[.iface 35 (.pointer (some e))]).runT Tryz.prog w #[] = (.ok (.value (rva 35 ⟨n, 0, none⟩ 150)) (w.alloc (.cells #[.pointer (some e)] 35)), #[xev 18]) := by subst h; exact vo35 e w
theorem voN36 (e : Addr) (w : World) {n : Nat} (h : w.heap.size = n) : (callFunc 18 #[.iface 36 (.pointer (some e))]).runT Tryz.prog w #[] = (.ok (.value (rva 36 ⟨n, 0, none⟩ 150)) (w.alloc (.cells #[.pointer (some e)] 36)), #[xev 18]) := by subst h; exact vo36 e w
theorem voN39 (e : Addr) (w : World) {n : Nat} (h : w.heap.size = n) : (callFunc 18 #[.iface 39 (.pointer (some e))]).runT Tryz.prog w #[] = (.ok (.value (rva 39 ⟨n, 0, none⟩ 150)) (w.alloc (.cells #[.pointer (some e)] 39)), #[xev 18]) := by subst h; exact vo39 e w
theorem voN47 (e : Addr) (w : World) {n : Nat} (h : w.heap.size = n) : (callFunc 18 #[.iface 47 (.pointer (some e))]).runT Tryz.prog w #[] = (.ok (.value (rva 47 ⟨n, 0, none⟩ 150)) (w.alloc (.cells #[.pointer (some e)] 47)), #[xev 18]) := by subst h; exact vo47 e w
set_option maxRecDepth 100000 in
set_option maxHeartbeats 4000000 in
theorem as_in35 {Gd : GB} {F : Nat → Prop} {v : World} (hgl : ∀ g, glH g = true → Gd g) (h6 : Gd 6) (e t : Addr) (old : Value) (a : Addr) (he : Gd e.block) (htg : Gd t.block) (ha : Gd a.block) (hc : v.cell? a = some (.pointer (some t))) (ht : v.cell? t = some old) (hf : v.frozen? t = false) :
    CallsV Vh Tryz.prog Gd 21 #[.iface 35 (.pointer (some e)), .iface 39 (.pointer (some t)), rva 39 a 150, rty 35] F v fun F' z v' => F' = F ∧ z = .bool true ∧ SetAt t (.pointer (some e)) v v' := by
  refine callsV_body Tryz.func21 (by rfl) (by kernel_rfl) ?_
  simp only [Tryz.ntmps21, List.size_toArray, List.length_cons, List.length_nil, Nat.reduceAdd, Nat.reduceSub, Array.replicate_succ, Array.replicate_zero, List.push_toArray, List.append_toArray, List.nil_append, List.cons_append]
  obtain ⟨u, hu⟩ : ∃ u, u = v.alloc (.cells #[hdl 39, .pointer (some a), .int .u64 150] 68) := ⟨_, rfl⟩
  have hal : ∀ (o : Obj) (p : Addr) (x : Value) (q : World), q.cell? p = some x → (q.alloc o).cell? p = some x := fun o p x q h => (World.cell?_alloc_lt _ _ _ (World.block_lt_of_cell? q _ h)).trans h
  have hu1 : u.cell? a = some (.pointer (some t)) := by rw [hu]; exact hal _ _ _ _ hc
  have hu2 : u.cell? t = some old := by rw [hu]; exact hal _ _ _ _ ht
  have htl : t.block < v.heap.size := World.block_lt_of_cell? v _ ht
  have hu3 : u.frozen? t = false := by rw [hu]; exact (World.frozen?_alloc_past _ _ _ htl).trans hf
  have hus : u.heap.size = v.heap.size + 1 := by rw [hu]; simp
  have HU := Lib.hid hu
  have HUS := Lib.hid hus
  have HTL := Lib.hid htl
  clear hu hus htl
  have tpc := tpC
  have tpf := tpF
  have tpa := tpA
  have tps := tpS
  have tph := tpH
  (refine wpV_seq ?_)
  (refine wpV_region ?_; simp only [List.size_toArray, List.length_cons, List.length_nil, Nat.reduceAdd, Nat.zero_add, List.range, List.range.loop])
  (refine opsV_op_k rfl (by rfl) (fun B hn => opsH hn hgl (by first | rfl | kernel_rfl)) ?_; intro τ p K hK; go_simp; refine hK _ _ ?_; clear hK K p τ; (try walk_nrm))
  (refine opsV_op_k rfl (by rfl) (fun B hn => opsH hn hgl (by first | rfl | kernel_rfl)) ?_; intro τ p K hK; go_simp; refine hK _ _ ?_; clear hK K p τ; (try walk_nrm))
  (refine opsV_nil ?_; (try dsimp only [thenV_normal, inBV_normal]))
  (refine wpV_block ?_)
  refine wpV_loop_rounds 1 ?_
  unfold RoundsV
  (refine wpV_block ?_)
  (refine wpV_seq ?_)
  (refine wpV_seq ?_)
  (refine wpV_region ?_; simp only [List.size_toArray, List.length_cons, List.length_nil, Nat.reduceAdd, Nat.zero_add, List.range, List.range.loop])
  (refine opsV_op_k rfl (by rfl) (fun B hn => opsH hn hgl (by first | rfl | kernel_rfl)) ?_; intro τ p K hK; go_simp; refine hK _ _ ?_; clear hK K p τ; (try walk_nrm))
  (refine opsV_pureS rfl (by rfl) (exec_call rfl (by walk_nrm <;> rfl)) (fun w => (to35 (.pointer (some e)) w)) (by rfl) (pf_rty h6 _) ?_; (try walk_nrm))
  (refine opsV_op_k rfl (by rfl) (fun B hn => opsH hn hgl (by first | rfl | kernel_rfl)) ?_; intro τ p K hK; go_simp; refine hK _ _ ?_; clear hK K p τ; (try walk_nrm))
  (refine opsV_pureS rfl (by rfl) (exec_inv rfl (by rfl) (by walk_nrm <;> rfl)) (fun w => (as35 w)) (by rfl) (.inr (.bool _)) ?_; (try walk_nrm))
  (refine opsV_nil ?_; (try dsimp only [thenV_normal, inBV_normal]))
  (refine wpV_cond_t rfl ?_)
  (refine wpV_seq ?_)
  (refine wpV_region ?_; simp only [List.size_toArray, List.length_cons, List.length_nil, Nat.reduceAdd, Nat.zero_add, List.range, List.range.loop])
  (refine opsV_op_k rfl (by rfl) (fun B hn => opsH hn hgl (by first | rfl | kernel_rfl)) ?_; intro τ p K hK; go_simp; refine hK _ _ ?_; clear hK K p τ; (try walk_nrm))
  rw [← HU.out]
  (refine opsV_readS (es := #[xev 35]) rfl (by rfl) (exec_call rfl (by walk_nrm <;> rfl)) (hu1) (fun w hw => (ev39 hw)) (by rfl) (pf_rva h6 _ htg _) ?_; (try walk_nrm))
  (refine opsV_op_k rfl (by rfl) (fun B hn => opsH hn hgl (by first | rfl | kernel_rfl)) ?_; intro τ p K hK; go_simp; refine hK _ _ ?_; clear hK K p τ; (try walk_nrm))
  (refine opsV_newS (x := rva 35 ⟨u.heap.size, 0, none⟩ 150) (ob := .cells #[.pointer (some e)] 35) (es := #[xev 18]) rfl (by rfl) (exec_call rfl (by walk_nrm <;> rfl)) (fun w hw => (voN35 e w hw)) (by rfl) (fun B hn x hx => by (simp only [List.mem_toArray, List.mem_singleton] at hx; subst hx; exact .inr (.ptr he))) (fun B hn hs => pf_rva h6 _ (hn _ hs) _) ?_; (try walk_nrm))
  refine opsV_setS (es := #[xev 36]) (q := ⟨u.heap.size, 0, none⟩) (p := t) (y := .pointer (some e)) (old := old) (z := .pointer (some e)) rfl (by rfl) (exec_call rfl (by walk_nrm)) (by simp) (hal _ _ _ _ hu2) ((World.frozen?_alloc_past _ _ _ (by have := HUS.out; have := HTL.out; show t.block < u.heap.size; omega)).trans hu3) (fun w h1 h2 h3 => st35 h1 h2 h3) (by rfl) (.inr (.ptr he)) (.inr (.tuple fun x hx => by simp at hx)) ?_
  walk_nrm
  (refine opsV_nil ?_; (try dsimp only [thenV_normal, inBV_normal]))
  (refine wpV_seq ?_)
  (refine wpV_region ?_; simp only [List.size_toArray, List.length_cons, List.length_nil, Nat.reduceAdd, Nat.zero_add, List.range, List.range.loop])
  (refine opsV_op_k rfl (by rfl) (fun B hn => opsH hn hgl (by first | rfl | kernel_rfl)) ?_; intro τ p K hK; go_simp; refine hK _ _ ?_; clear hK K p τ; (try walk_nrm))
  (refine opsV_nil ?_; (try dsimp only [thenV_normal, inBV_normal]))
  (refine wpV_ret ?_; (try dsimp only [thenV_ret, inBV_ret]))
  refine ⟨.inr rfl, rfl, _, resultsC_tmp (by rfl) _, rfl, rfl, SetAt.of ?_ HTL.out⟩
  exact Bl.alloc (by rw [HU.out]; exact (Bl.refl _ _).alloc (Nat.le_refl _) _) (by have := HUS.out; omega) _
set_option maxRecDepth 100000 in
set_option maxHeartbeats 4000000 in
theorem as_in36 {Gd : GB} {F : Nat → Prop} {v : World} (hgl : ∀ g, glH g = true → Gd g) (h6 : Gd 6) (e t : Addr) (old : Value) (a : Addr) (he : Gd e.block) (htg : Gd t.block) (ha : Gd a.block) (hc : v.cell? a = some (.pointer (some t))) (ht : v.cell? t = some old) (hf : v.frozen? t = false) :
    CallsV Vh Tryz.prog Gd 21 #[.iface 36 (.pointer (some e)), .iface 47 (.pointer (some t)), rva 47 a 150, rty 36] F v fun F' z v' => F' = F ∧ z = .bool true ∧ SetAt t (.pointer (some e)) v v' := by
  refine callsV_body Tryz.func21 (by rfl) (by kernel_rfl) ?_
  simp only [Tryz.ntmps21, List.size_toArray, List.length_cons, List.length_nil, Nat.reduceAdd, Nat.reduceSub, Array.replicate_succ, Array.replicate_zero, List.push_toArray, List.append_toArray, List.nil_append, List.cons_append]
  obtain ⟨u, hu⟩ : ∃ u, u = v.alloc (.cells #[hdl 47, .pointer (some a), .int .u64 150] 68) := ⟨_, rfl⟩
  have hal : ∀ (o : Obj) (p : Addr) (x : Value) (q : World), q.cell? p = some x → (q.alloc o).cell? p = some x := fun o p x q h => (World.cell?_alloc_lt _ _ _ (World.block_lt_of_cell? q _ h)).trans h
  have hu1 : u.cell? a = some (.pointer (some t)) := by rw [hu]; exact hal _ _ _ _ hc
  have hu2 : u.cell? t = some old := by rw [hu]; exact hal _ _ _ _ ht
  have htl : t.block < v.heap.size := World.block_lt_of_cell? v _ ht
  have hu3 : u.frozen? t = false := by rw [hu]; exact (World.frozen?_alloc_past _ _ _ htl).trans hf
  have hus : u.heap.size = v.heap.size + 1 := by rw [hu]; simp
  have HU := Lib.hid hu
  have HUS := Lib.hid hus
  have HTL := Lib.hid htl
  clear hu hus htl
  have tpc := tpC
  have tpf := tpF
  have tpa := tpA
  have tps := tpS
  have tph := tpH
  (refine wpV_seq ?_)
  (refine wpV_region ?_; simp only [List.size_toArray, List.length_cons, List.length_nil, Nat.reduceAdd, Nat.zero_add, List.range, List.range.loop])
  (refine opsV_op_k rfl (by rfl) (fun B hn => opsH hn hgl (by first | rfl | kernel_rfl)) ?_; intro τ p K hK; go_simp; refine hK _ _ ?_; clear hK K p τ; (try walk_nrm))
  (refine opsV_op_k rfl (by rfl) (fun B hn => opsH hn hgl (by first | rfl | kernel_rfl)) ?_; intro τ p K hK; go_simp; refine hK _ _ ?_; clear hK K p τ; (try walk_nrm))
  (refine opsV_nil ?_; (try dsimp only [thenV_normal, inBV_normal]))
  (refine wpV_block ?_)
  refine wpV_loop_rounds 1 ?_
  unfold RoundsV
  (refine wpV_block ?_)
  (refine wpV_seq ?_)
  (refine wpV_seq ?_)
  (refine wpV_region ?_; simp only [List.size_toArray, List.length_cons, List.length_nil, Nat.reduceAdd, Nat.zero_add, List.range, List.range.loop])
  (refine opsV_op_k rfl (by rfl) (fun B hn => opsH hn hgl (by first | rfl | kernel_rfl)) ?_; intro τ p K hK; go_simp; refine hK _ _ ?_; clear hK K p τ; (try walk_nrm))
  (refine opsV_pureS rfl (by rfl) (exec_call rfl (by walk_nrm <;> rfl)) (fun w => (to36 (.pointer (some e)) w)) (by rfl) (pf_rty h6 _) ?_; (try walk_nrm))
  (refine opsV_op_k rfl (by rfl) (fun B hn => opsH hn hgl (by first | rfl | kernel_rfl)) ?_; intro τ p K hK; go_simp; refine hK _ _ ?_; clear hK K p τ; (try walk_nrm))
  (refine opsV_pureS rfl (by rfl) (exec_inv rfl (by rfl) (by walk_nrm <;> rfl)) (fun w => (as36 w)) (by rfl) (.inr (.bool _)) ?_; (try walk_nrm))
  (refine opsV_nil ?_; (try dsimp only [thenV_normal, inBV_normal]))
  (refine wpV_cond_t rfl ?_)
  (refine wpV_seq ?_)
  (refine wpV_region ?_; simp only [List.size_toArray, List.length_cons, List.length_nil, Nat.reduceAdd, Nat.zero_add, List.range, List.range.loop])
  (refine opsV_op_k rfl (by rfl) (fun B hn => opsH hn hgl (by first | rfl | kernel_rfl)) ?_; intro τ p K hK; go_simp; refine hK _ _ ?_; clear hK K p τ; (try walk_nrm))
  rw [← HU.out]
  (refine opsV_readS (es := #[xev 35]) rfl (by rfl) (exec_call rfl (by walk_nrm <;> rfl)) (hu1) (fun w hw => (ev47 hw)) (by rfl) (pf_rva h6 _ htg _) ?_; (try walk_nrm))
  (refine opsV_op_k rfl (by rfl) (fun B hn => opsH hn hgl (by first | rfl | kernel_rfl)) ?_; intro τ p K hK; go_simp; refine hK _ _ ?_; clear hK K p τ; (try walk_nrm))
  (refine opsV_newS (x := rva 36 ⟨u.heap.size, 0, none⟩ 150) (ob := .cells #[.pointer (some e)] 36) (es := #[xev 18]) rfl (by rfl) (exec_call rfl (by walk_nrm <;> rfl)) (fun w hw => (voN36 e w hw)) (by rfl) (fun B hn x hx => by (simp only [List.mem_toArray, List.mem_singleton] at hx; subst hx; exact .inr (.ptr he))) (fun B hn hs => pf_rva h6 _ (hn _ hs) _) ?_; (try walk_nrm))
  refine opsV_setS (es := #[xev 36]) (q := ⟨u.heap.size, 0, none⟩) (p := t) (y := .pointer (some e)) (old := old) (z := .pointer (some e)) rfl (by rfl) (exec_call rfl (by walk_nrm)) (by simp) (hal _ _ _ _ hu2) ((World.frozen?_alloc_past _ _ _ (by have := HUS.out; have := HTL.out; show t.block < u.heap.size; omega)).trans hu3) (fun w h1 h2 h3 => st36 h1 h2 h3) (by rfl) (.inr (.ptr he)) (.inr (.tuple fun x hx => by simp at hx)) ?_
  walk_nrm
  (refine opsV_nil ?_; (try dsimp only [thenV_normal, inBV_normal]))
  (refine wpV_seq ?_)
  (refine wpV_region ?_; simp only [List.size_toArray, List.length_cons, List.length_nil, Nat.reduceAdd, Nat.zero_add, List.range, List.range.loop])
  (refine opsV_op_k rfl (by rfl) (fun B hn => opsH hn hgl (by first | rfl | kernel_rfl)) ?_; intro τ p K hK; go_simp; refine hK _ _ ?_; clear hK K p τ; (try walk_nrm))
  (refine opsV_nil ?_; (try dsimp only [thenV_normal, inBV_normal]))
  (refine wpV_ret ?_; (try dsimp only [thenV_ret, inBV_ret]))
  refine ⟨.inr rfl, rfl, _, resultsC_tmp (by rfl) _, rfl, rfl, SetAt.of ?_ HTL.out⟩
  exact Bl.alloc (by rw [HU.out]; exact (Bl.refl _ _).alloc (Nat.le_refl _) _) (by have := HUS.out; omega) _
end Go.Proofs.YtmmjlngbiilagaaGreatDoor
