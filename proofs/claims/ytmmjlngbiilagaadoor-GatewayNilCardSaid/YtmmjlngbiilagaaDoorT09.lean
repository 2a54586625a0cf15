/-
  THE COMPARISONS OF NUMBERS AND OF STRINGS, in company.
-/
import Derived.Test.YtmmjlngbiilagaaDoorT08
import Derived.Conc.CompanyMem
import Derived.Lib.Bytealg

namespace Go.Proofs.YtmmjlngbiilagaaDoor
open Go Go.Conc Go.RowKit Go.Lib

section
variable {P : Program} {main : Bool} {R : World → World → Prop} {D : World → World → Array Event → Prop} {fn : FuncId} {Q : Exit → Act → World → Prop} {ops : Array Oper} {i : Nat} {rest : List Nat} {o : Oper} {a : Act} {w : World} {n : Nat}

theorem opsC_rely (T : Terms R D) {todo : List Nat} {w₁ : World} (h : OpsC P main R D fn ops todo n Q a w) (hr : R w w₁) : OpsC P main R D fn ops todo n Q a w₁ :=
  fun b k cs Stop m hb hk hc => (h b k cs Stop m hb hk hc).rely T.trans hr

/-- An entry of the model's that looks at no memory. -/
theorem opsC_entry (T : Terms R D) {f : FuncId} {fnc : Func} {xs : Array Operand} {ats : Array TypeId} {e : Array Value → Sem Value} {v : Value} (ho : ops[i]? = some o) (hw : Region.wanted o (yielded ops a.tmps) = true) (hop : o.op = .call { callee := .value (.func f), args := xs, argTypes := ats })
    (hf : P.funcs[f]? = some fnc) (hname : (fnc.name == "runtime.NumGoroutine") = false) (hb : fnc.body.isNone = true) (hn : Extern.findNext fnc = none) (he : Extern.find fnc = some e)
    (hrun : ∀ w, (e (xs.map a.eval)).run P w = .ok v w) (hev : ∀ w es, (e (xs.map a.eval)).events P w es = es) (h : OpsC P main R D fn ops rest n Q (a.put o.dst v) w) : OpsC P main R D fn ops (i :: rest) (n + 1) Q a w :=
  opsC_cons ho hw fun w₁ h₁ => by
    have e1 := execOp_call_func (a := a) hop
    have hr : (execOp a.eval o).run P w₁ = .ok (.value v) w₁ := by rw [e1, run_callFunc_extern hf hname hb hn he, hrun]; rfl
    have hl : listed P fn a o w₁ = #[] := by
      unfold listed
      rw [e1, events_callFunc_extern hf hname hb hn he, hev]
      have := seen_entry (P := P) fn f #[] (fun x hx => by simp at hx)
      simpa using this
    rw [hr]
    exact ⟨by rw [hl]; exact T.idle _, opsC_rely T h h₁⟩
end

section
variable {main : Bool} {R : World → World → Prop} {D : World → World → Array Event → Prop}

set_option maxRecDepth 100000 in
theorem isNaN_c (T : Terms R D) : ∃ n, ∀ (x : Int) (w : World), CallsC Tryd.prog main R D 52 #[.int .i64 x] n w fun v w' => v = .bool false ∧ Since R w w' := by
  co_apply Exists.intro
  intro x w
  co_apply callsC_of_wpC Tryd.func52 (by rfl) rfl
  have hF : Since R w w := .refl w
  simp only [Tryd.ntmps52, List.size_toArray, List.length_cons, List.length_nil, Nat.reduceAdd, Nat.reduceSub, Array.replicate_succ, Array.replicate_zero, List.push_toArray, List.append_toArray, List.nil_append, List.cons_append]
  co_go T (Since.rely T) hF (co_quiet T)
  exact ⟨rfl, _, resultsC_tmp (by rfl) _, by simp, hF⟩

/-- The sign of a comparison. -/
def sgn (x y : Int) : Int := if x < y then -1 else if y < x then 1 else 0

set_option maxRecDepth 100000 in
theorem cmpInt_c (T : Terms R D) : ∃ n, ∀ (x y : Int) (w : World), CallsC Tryd.prog main R D 25 #[.int .i64 x, .int .i64 y] n w fun v w' => v = .int .i64 (sgn x y) ∧ Since R w w' := by
  obtain ⟨nn, hnan⟩ := isNaN_c (main := main) T
  co_apply Exists.intro
  intro x y w
  co_apply callsC_of_wpC Tryd.func25 (by rfl) rfl
  have hF : Since R w w := .refl w
  simp only [Tryd.ntmps25, List.size_toArray, List.length_cons, List.length_nil, Nat.reduceAdd, Nat.reduceSub, Array.replicate_succ, Array.replicate_zero, List.push_toArray, List.append_toArray, List.nil_append, List.cons_append]
  co_stmt T (Since.rely T) hF (co_quiet T)
  co_apply wpC_seq T
  co_reg T
  co_op (Since.rely T) hF (co_quiet T)
  co_apply opsC_call T rfl (by rfl) rfl
  · walk_nrm
    exact hnan x _
  rintro v w' ⟨rfl, hs⟩
  replace hF := hs.elim (fun e => e ▸ hF) fun r => Since.rely T hF r
  clear hs
  walk_nrm
  co_op (Since.rely T) hF (co_quiet T)
  co_apply opsC_nil T
  co_then
  co_apply wpC_seq T
  co_reg T
  co_op (Since.rely T) hF (co_quiet T)
  co_apply opsC_call T rfl (by rfl) rfl
  · walk_nrm
    exact hnan y _
  rintro v w' ⟨rfl, hs⟩
  replace hF := hs.elim (fun e => e ▸ hF) fun r => Since.rely T hF r
  clear hs
  walk_nrm
  co_go T (Since.rely T) hF (co_quiet T)
  co_apply wpC_cond T (t := false)
  focus (exact rfl)
  simp only [Bool.false_eq_true, if_false]
  co_go T (Since.rely T) hF (co_quiet T)
  co_apply wpC_cond T (t := false)
  focus (exact rfl)
  simp only [Bool.false_eq_true, if_false]
  co_go T (Since.rely T) hF (co_quiet T)
  co_split T (decide (x < y))
  · intro hx
    have hx' : x < y := of_decide_eq_true hx
    co_go T (Since.rely T) hF (co_quiet T)
    exact ⟨rfl, _, resultsC_tmp (by rfl) _, by simp [sgn, hx'], hF⟩
  · intro hx
    have hx' : ¬ x < y := of_decide_eq_false hx
    co_go T (Since.rely T) hF (co_quiet T)
    co_split T (decide (y < x))
    · intro hy
      have hy' : y < x := of_decide_eq_true hy
      co_go T (Since.rely T) hF (co_quiet T)
      exact ⟨rfl, _, resultsC_tmp (by rfl) _, by simp [sgn, hx', hy'], hF⟩
    · intro hy
      have hy' : ¬ y < x := of_decide_eq_false hy
      co_go T (Since.rely T) hF (co_quiet T)
      exact ⟨rfl, _, resultsC_tmp (by rfl) _, by simp [sgn, hx', hy'], hF⟩

set_option maxRecDepth 100000 in
theorem cmpStr_c (T : Terms R D) : ∃ n, ∀ (x y : ByteArray) (w : World), CallsC Tryd.prog main R D 53 #[.string x, .string y] n w fun v w' => v = .int .i64 (compareBytes x.data.toList y.data.toList) ∧ Since R w w' := by
  co_apply Exists.intro
  intro x y w
  co_apply callsC_of_wpC Tryd.func53 (by rfl) rfl
  have hF : Since R w w := .refl w
  simp only [Tryd.ntmps53, List.size_toArray, List.length_cons, List.length_nil, Nat.reduceAdd, Nat.reduceSub, Array.replicate_succ, Array.replicate_zero, List.push_toArray, List.append_toArray, List.nil_append, List.cons_append]
  co_stmt T (Since.rely T) hF (co_quiet T)
  co_apply wpC_seq T
  co_reg T
  co_op (Since.rely T) hF (co_quiet T)
  co_op (Since.rely T) hF (co_quiet T)
  co_apply opsC_entry T (v := .int .i64 (compareBytes x.data.toList y.data.toList)) rfl (by rfl) rfl Tryd.func82 (by kernel_rfl) (by kernel_rfl) (by kernel_rfl) (by kernel_rfl)
  · intro w; walk_nrm; exact run_compareString x y w
  · intro w es; walk_nrm; rfl
  walk_nrm
  co_go T (Since.rely T) hF (co_quiet T)
  exact ⟨rfl, _, resultsC_tmp (by rfl) _, by simp, hF⟩

set_option maxRecDepth 100000 in
theorem strCmp_c (T : Terms R D) : ∃ n, ∀ (x y : ByteArray) (w : World), CallsC Tryd.prog main R D 26 #[.string x, .string y] n w fun v w' => v = .int .i64 (compareBytes x.data.toList y.data.toList) ∧ Since R w w' := by
  obtain ⟨nn, hc⟩ := cmpStr_c (main := main) T
  co_apply Exists.intro
  intro x y w
  co_apply callsC_of_wpC Tryd.func26 (by rfl) rfl
  have hF : Since R w w := .refl w
  simp only [Tryd.ntmps26, List.size_toArray, List.length_cons, List.length_nil, Nat.reduceAdd, Nat.reduceSub, Array.replicate_succ, Array.replicate_zero, List.push_toArray, List.append_toArray, List.nil_append, List.cons_append]
  co_stmt T (Since.rely T) hF (co_quiet T)
  co_apply wpC_seq T
  co_reg T
  co_op (Since.rely T) hF (co_quiet T)
  co_op (Since.rely T) hF (co_quiet T)
  co_apply opsC_call T rfl (by rfl) rfl
  · walk_nrm
    exact hc x y _
  rintro v w' ⟨rfl, hs⟩
  replace hF := hs.elim (fun e => e ▸ hF) fun r => Since.rely T hF r
  clear hs
  walk_nrm
  co_go T (Since.rely T) hF (co_quiet T)
  exact ⟨rfl, _, resultsC_tmp (by rfl) _, by simp, hF⟩
end
end Go.Proofs.YtmmjlngbiilagaaDoor

/-
  THE SORT's PHASE: the collector alone (the others only leave): what a step may do there. cmp.Or over three numbers in a block of its own.
-/
namespace Go.Proofs.YtmmjlngbiilagaaDoor
open Go Go.Conc Go.RowKit Go.Lib

/-- A step of the phase: from B on the blocks are its own, and those of O; nothing else is turned; what is listed touches its own, or reads Q. -/
structure DSt (O Q : Nat → Prop) (B : Nat) (w w' : World) (es : Array Event) : Prop where
  tape : w'.tape = w.tape
  os : w'.os = w.os
  output : w'.output = w.output
  size : w.heap.size ≤ w'.heap.size
  block : ∀ b, b < w.heap.size → b < B → ¬ O b → w'.heap[b]? = w.heap[b]?
  ev : ∀ e ∈ es, EvP (fun b => O b ∨ (B ≤ b ∧ b < w'.heap.size)) Q e

theorem termsSt (O Q : Nat → Prop) (B : Nat) : Terms AtRel (DSt O Q B) := ⟨fun _ _ _ ⟨_, h⟩ ⟨d, k⟩ => ⟨d, by subst h; subst k; rfl⟩, fun _ => ⟨rfl, rfl, rfl, Nat.le_refl _, fun _ _ _ _ => rfl, by simp⟩⟩
theorem drawSt (O Q : Nat → Prop) (B : Nat) : LetsDraw (DSt O Q B) := fun _ => ⟨rfl, rfl, rfl, Nat.le_refl _, fun _ _ _ _ => rfl, by simp⟩

section
variable {O Q : Nat → Prop} {B : Nat} {w w₁ : World}
theorem dst_read {g : Nat} (hg : O g ∨ (B ≤ g ∧ g < w.heap.size) ∨ Q g) : ∀ es : Array Event, (∀ e ∈ es, RdB g e) → DSt O Q B w w es := fun es h =>
  ⟨rfl, rfl, rfl, Nat.le_refl _, fun _ _ _ _ => rfl, fun e he => by
    obtain ⟨ad, rfl, rfl⟩ := h e he
    exact ⟨rfl, hg.elim (fun x => .inl (.inl x)) fun x => x.elim (fun y => .inl (.inr y)) fun y => .inr ⟨y, rfl⟩⟩⟩
theorem dst_new (ob : Obj) : ∀ es : Array Event, (∀ e ∈ es, NoE e) → DSt O Q B w (w.alloc ob) es := fun es h =>
  ⟨rfl, rfl, rfl, by simp, fun b hb _ _ => heap_alloc_old w ob b hb, fun e he => (h e he).elim⟩
theorem atRel_heap (h : AtRel w w₁) : w₁.heap = w.heap := by obtain ⟨d, rfl⟩ := h; rfl
end

section
variable {P : Program} {main : Bool} {R : World → World → Prop} {D : World → World → Array Event → Prop} {fn : FuncId} {Q : Exit → Act → World → Prop} {ops : Array Oper} {i : Nat} {rest : List Nat} {o : Oper} {a : Act} {w : World} {n : Nat}
/-- An operation by what it does and lists. -/
theorem opsC_yld (ho : ops[i]? = some o) (hw : Region.wanted o (yielded ops a.tmps) = true)
    (h : ∀ w₁, R w w₁ → ∃ a' w' E, Yld P o a w₁ E a' w' ∧ (∀ es, (∀ e ∈ es, E e) → D w₁ w' es) ∧ OpsC P main R D fn ops rest n Q a' w') : OpsC P main R D fn ops (i :: rest) (n + 1) Q a w :=
  opsC_cons_k ho hw fun w₁ h₁ K' hK' => by
    obtain ⟨a', w', E, hy, hd, hk⟩ := h w₁ h₁
    exact hy.1 K' (hK' _ _ ⟨hd _ fun e he => hy.2 e (mem_listed he), hk⟩)
end

/-- The world of the beginning, or one more drawn. -/
abbrev Drawn (w w' : World) : Prop := ∃ d, w' = { w with drawn := d }
theorem Drawn.refl (w : World) : Drawn w w := ⟨w.drawn, rfl⟩
theorem Drawn.rel {w w' w₁ : World} (h : Drawn w w') (r : AtRel w' w₁) : Drawn w w₁ := by
  obtain ⟨d, rfl⟩ := h
  obtain ⟨e, rfl⟩ := r
  exact ⟨e, rfl⟩

def firstNZ : List Int → Int
  | [] => 0
  | c :: cs => if c = 0 then firstNZ cs else c

/-- A block that holds three numbers. -/
structure H3 (g : Nat) (cs : List Int) (B : Nat) (w0 w : World) : Prop where
  blk : w.heap[g]? = some (.cells (cs.map (Value.int .i64)).toArray 3 (0, 0))
  own : B ≤ g
  dr : Drawn w0 w
theorem H3.rel {g : Nat} {cs : List Int} {B : Nat} {w0 w w₁ : World} (h : H3 g cs B w0 w) (r : AtRel w w₁) : H3 g cs B w0 w₁ := ⟨by rw [atRel_heap r]; exact h.blk, h.own, h.dr.rel r⟩

def InvOr (g : Nat) (cs : List Int) (B : Nat) (w0 : World) (a : Act) (w : World) : Prop :=
  ∃ (j : Nat) (v1 v4 v5 v9 v10 v11 v12 v13 v14 v15 v16 v17 : Value), j ≤ 3 ∧ firstNZ (cs.drop j) = firstNZ cs ∧ H3 g cs B w0 w ∧
    a = { tmps := #[.slice (some ⟨g, 0, none⟩) 3 3, v1, .int .i64 0, .int .i64 0, v4, v5, .slice (some ⟨g, 0, none⟩) 3 3, .int .i64 3, .int .i64 j, v9, v10, v11, v12, v13, v14, v15, v16, v17], defers := [] }
def MuOr (a : Act) (_ : World) : Nat := match a.tmps.getD 8 undef with | .int _ j => 3 - j.toNat | _ => 0

set_option maxRecDepth 100000 in
theorem or_c {main : Bool} (O Q : Nat → Prop) (B : Nat) : ∃ n, ∀ (g : Nat) (cs : List Int) (w : World), cs.length = 3 → w.heap[g]? = some (.cells (cs.map (Value.int .i64)).toArray 3 (0, 0)) → B ≤ g →
    CallsC Tryd.prog main AtRel (DSt O Q B) 24 #[.slice (some ⟨g, 0, none⟩) 3 3] n w fun v w' => v = .int .i64 (firstNZ cs) ∧ Drawn w w' := by
  have T := termsSt O Q B
  co_apply Exists.intro
  intro g cs w hl hg hB
  co_apply callsC_of_wpC Tryd.func24 (by rfl) rfl
  have hF : H3 g cs B w w := ⟨hg, hB, .refl w⟩
  simp only [Tryd.ntmps24, List.size_toArray, List.length_cons, List.length_nil, Nat.reduceAdd, Nat.reduceSub, Array.replicate_succ, Array.replicate_zero, List.push_toArray, List.append_toArray, List.nil_append, List.cons_append]
  co_go T H3.rel hF (co_quiet T)
  co_apply wpC_loop T (InvOr g cs B w) MuOr _ 3
  · exact ⟨0, _, _, _, _, _, _, _, _, _, _, _, _, by omega, rfl, hF, rfl⟩
  · simp [MuOr]
  · rintro a w' ⟨j, v1, v4, v5, v9, v10, v11, v12, v13, v14, v15, v16, v17, hj, hnz, hF, rfl⟩
    co_go T H3.rel hF (co_quiet T)
    co_split T (decide ((j : Int) < 3))
    · intro hj3
      have hj3 : j < 3 := by have := of_decide_eq_true hj3; omega
      have hlt : (j : Int) < 3 := by omega
      have h0 : (0 : Int) ≤ (j : Int) := by omega
      obtain ⟨c, hc⟩ : ∃ c, cs[j]? = some c := ⟨_, List.getElem?_eq_getElem (by omega)⟩
      have hd : cs.drop j = c :: cs.drop (j + 1) := by rw [List.drop_eq_getElem_cons (by omega)]; congr 1; exact (List.getElem?_eq_some_iff.1 hc).2
      co_go T H3.rel hF (co_still T)
      co_apply opsC_yld rfl (by rfl)
      intro w₁ hR
      replace hF := hF.rel hR
      clear hR
      refine ⟨_, _, _, yld_load1 (ad := ⟨g, j, none⟩) (v := .int .i64 c) rfl rfl (by rw [cell_of_row _ _ _ _ _ _ hF.blk]; simp [hc]) (Tryd.isAgg3 _) (evAgg _), dst_read (.inr (.inl ⟨hF.own, heap_lt hF.blk⟩)), ?_⟩
      walk_nrm
      co_go T H3.rel hF (co_quiet T)
      co_split T (c != 0)
      · intro hz
        have hz' : c ≠ 0 := by simpa using hz
        co_go T H3.rel hF (co_quiet T)
        refine ⟨rfl, _, resultsC_tmp (by rfl) _, ?_, hF.dr⟩
        rw [hd] at hnz
        simp [← hnz, firstNZ, hz']
      · intro hz
        obtain rfl : c = 0 := by simpa using hz
        co_go T H3.rel hF (co_quiet T)
        have hi64 : IntKind.i64.wrap ((j : Int) + 1) = ((j + 1 : Nat) : Int) := by rw [IntKind.wrap_i64]; omega
        refine ⟨⟨j + 1, _, _, _, _, _, _, _, _, _, _, _, _, by omega, ?_, hF, by rw [hi64]⟩, ?_⟩
        · rw [hd] at hnz
          simpa [firstNZ] using hnz
        · simp [MuOr, hi64]
          omega
    · intro hj3
      obtain rfl : j = 3 := by have := of_decide_eq_false hj3; omega
      co_go T H3.rel hF (co_quiet T)
      rw [List.drop_eq_nil_of_le (by omega)] at hnz
      exact ⟨rfl, _, resultsC_tmp (by rfl) _, by simp [← hnz, firstNZ], hF.dr⟩
end Go.Proofs.YtmmjlngbiilagaaDoor

/-
  Compare OF TWO MESSAGES, in the sort's phase: its operations come up in whatever order.
-/
namespace Go.Proofs.YtmmjlngbiilagaaDoor
open Go Go.Conc Go.RowKit Go.Lib

section
variable {P : Program} {o : Oper} {a : Act} {w : World}
theorem yld_move {x : Operand} {v : Value} (ho : o.op = .move x) (hx : a.eval x = v) : Yld P o a w NoE (a.put o.dst v) w := by
  refine Yld.value ?_ ?_
  · unfold execOp; simp [ho, hx]
  · intro e he; unfold execOp at he; simp [ho] at he
theorem yld_assign {x : Operand} {v : Value} (ho : o.op = .assign x) (hx : a.eval x = v) : Yld P o a w NoE (a.put o.dst v) w := by
  refine Yld.value ?_ ?_
  · unfold execOp; simp [ho, hx]
  · intro e he; unfold execOp at he; simp [ho] at he
theorem yld_pick {c x y : Operand} {b : Bool} (ho : o.op = .pick c x y) (hc : a.eval c = .bool b) : Yld P o a w NoE (a.put o.dst (if b then a.eval x else a.eval y)) w := by
  refine Yld.value ?_ ?_
  · unfold execOp; simp [ho, hc, asBool]
  · intro e he; unfold execOp at he; simp [ho, hc, asBool] at he
/-- By what it runs to, listing nothing. -/
theorem yld_none {v : Value} (hr : (execOp a.eval o).run P w = .ok (.value v) w) (he : (execOp a.eval o).events P w #[] = #[]) : Yld P o a w NoE (a.put o.dst v) w :=
  Yld.value hr fun e h => by rw [he] at h; simp at h
end

section
variable {o : Oper} {a : Act} {w : World}
/-- A field's address in a message. -/
theorem yld_field34 {x : Operand} {b off k : Nat} (hk : k < 4) (ho : o.op = .fieldAddr 34 x k) (hx : a.eval x = .pointer (some ⟨b, off, none⟩)) : Yld Tryd.prog o a w NoE (a.put o.dst (.pointer (some ⟨b, off + k, none⟩))) w := by
  have hd : (⟨b, off, none⟩ : Addr).add k = ⟨b, off + k, none⟩ := add0 b off k
  refine yld_none ?_ ?_
  · unfold execOp
    obtain rfl | rfl | rfl | rfl : k = 0 ∨ k = 1 ∨ k = 2 ∨ k = 3 := by omega
    all_goals simp [ho, hx, Instr.fieldAt, Tryd.runUnderlying34, Instr.sureAddr, fieldPlace, Tryd.sizeOf3, Tryd.sizeOf9, add0]
  · unfold execOp
    have hu : ∀ es, (underlying 34).events Tryd.prog w es = es := fun es => by
      unfold underlying
      rw [Sem.events_bind]
      simp only [run_program, Result.evThen_ok, events_program]
      split <;> rfl
    obtain rfl | rfl | rfl | rfl : k = 0 ∨ k = 1 ∨ k = 2 ∨ k = 3 := by omega
    all_goals simp [ho, hx, Instr.fieldAt, Tryd.runUnderlying34, Instr.sureAddr, fieldPlace, Tryd.sizeOf3, Tryd.sizeOf9, add0, hu, evSize]
end
/-- Blocks that were there stand. -/
structure Grew (w w' : World) : Prop where
  tape : w'.tape = w.tape
  os : w'.os = w.os
  output : w'.output = w.output
  size : w.heap.size ≤ w'.heap.size
  block : ∀ b, b < w.heap.size → w'.heap[b]? = w.heap[b]?
section
variable {w w' w'' : World}
theorem Grew.refl (w : World) : Grew w w := ⟨rfl, rfl, rfl, Nat.le_refl _, fun _ _ => rfl⟩
theorem Grew.trans (h : Grew w w') (h' : Grew w' w'') : Grew w w'' :=
  ⟨h'.tape.trans h.tape, h'.os.trans h.os, h'.output.trans h.output, Nat.le_trans h.size h'.size, fun b hb => (h'.block b (Nat.lt_of_lt_of_le hb h.size)).trans (h.block b hb)⟩
theorem Grew.alloc (h : Grew w w') (o : Obj) : Grew w (w'.alloc o) := h.trans ⟨rfl, rfl, rfl, by simp, fun b hb => heap_alloc_old w' o b hb⟩
theorem Grew.drawn (h : Grew w w') (r : Drawn w' w'') : Grew w w'' := by obtain ⟨d, rfl⟩ := r; exact h.trans ⟨rfl, rfl, rfl, Nat.le_refl _, fun _ _ => rfl⟩
theorem Grew.rel (h : Grew w w') (r : AtRel w' w'') : Grew w w'' := h.drawn (by obtain ⟨d, rfl⟩ := r; exact ⟨d, rfl⟩)
theorem since_drawn (h : Since AtRel w w') : Drawn w w' := h.elim (fun e => e ▸ .refl w) fun r => (Drawn.refl w).rel r
end

def cmpM (x y : M4) : Int := firstNZ [sgn x.t y.t, compareBytes x.m.data.toList y.m.data.toList, sgn x.s y.s]

noncomputable def bodyCmp : Code := Tryd.f16.body.getD .skip
noncomputable def opsCmp : Array Oper := match bodyCmp with | .seq _ (.seq (.region _ ops _) _) => ops | _ => #[]

/-- What is held of memory while it compares. -/
structure HC (g1 g2 B : Nat) (x y : M4) (w0 w : World) : Prop where
  gr : Grew w0 w
  b1 : w.heap[g1]? = some (.cells x.cells.toArray 34 (0, 0))
  b2 : w.heap[g2]? = some (.cells y.cells.toArray 34 (0, 0))
  n1 : B ≤ g1
  n2 : B ≤ g2
  n0 : B ≤ w0.heap.size
theorem HC.grew {g1 g2 B : Nat} {x y : M4} {w0 w w' : World} (h : HC g1 g2 B x y w0 w) (g : Grew w w') : HC g1 g2 B x y w0 w' :=
  ⟨h.gr.trans g, (g.block g1 (heap_lt h.b1)).trans h.b1, (g.block g2 (heap_lt h.b2)).trans h.b2, h.n1, h.n2, h.n0⟩
theorem HC.rel {g1 g2 B : Nat} {x y : M4} {w0 w w' : World} (h : HC g1 g2 B x y w0 w) (r : AtRel w w') : HC g1 g2 B x y w0 w' := h.grew ((Grew.refl w).rel r)

/-- What each operation yields. -/
def VC (g1 g2 B : Nat) (x y : M4) (j : Nat) (v : Value) (w : World) : Prop :=
  match j with
  | 0 => v = .pointer (some ⟨g1, 0, none⟩)
  | 1 => v = .int .i64 x.t
  | 2 => v = .pointer (some ⟨g2, 0, none⟩)
  | 3 => v = .int .i64 y.t
  | 4 => v = .int .i64 (sgn x.t y.t)
  | 5 => v = .pointer (some ⟨g1, 1, none⟩)
  | 6 => v = .string x.m
  | 7 => v = .pointer (some ⟨g2, 1, none⟩)
  | 8 => v = .string y.m
  | 9 => v = .int .i64 (compareBytes x.m.data.toList y.m.data.toList)
  | 10 => v = .pointer (some ⟨g1, 2, none⟩)
  | 11 => v = .int .i64 x.s
  | 12 => v = .pointer (some ⟨g2, 2, none⟩)
  | 13 => v = .int .i64 y.s
  | 14 => v = .int .i64 (sgn x.s y.s)
  | 15 => ∃ g, v = .slice (some ⟨g, 0, none⟩) 3 3 ∧ B ≤ g ∧ w.heap[g]? = some (.cells (([sgn x.t y.t, compareBytes x.m.data.toList y.m.data.toList, sgn x.s y.s]).map (Value.int .i64)).toArray 3 (0, 0))
  | _ => v = .int .i64 (cmpM x y)
theorem VC.grew {g1 g2 B : Nat} {x y : M4} {w w' : World} (g : Grew w w') : ∀ {j : Nat} {v : Value}, VC g1 g2 B x y j v w → VC g1 g2 B x y j v w'
  | 15, _, ⟨k, h1, h2, h3⟩ => ⟨k, h1, h2, (g.block k (heap_lt h3)).trans h3⟩
  | 0, _, h | 1, _, h | 2, _, h | 3, _, h | 4, _, h | 5, _, h | 6, _, h | 7, _, h | 8, _, h | 9, _, h | 10, _, h | 11, _, h | 12, _, h | 13, _, h | 14, _, h | _ + 16, _, h => h

def dstNot (ops : Array Oper) (s : Tmp) : Bool := ops.all fun o => o.dst != some s
theorem dstNot_spec {ops : Array Oper} {s : Tmp} (h : dstNot ops s = true) {j : Nat} {o : Oper} (hj : ops[j]? = some o) : o.dst ≠ some s := by
  have := Array.all_eq_true_iff_forall_mem.1 h o (Array.mem_of_getElem? hj)
  simpa using this
theorem RJ.val {ops : Array Oper} {a0 a : Act} {V : Nat → Value → World → Prop} {S : (Nat → Bool) → World → Prop} {L : Nat → Bool} {w : World} (h : RJ ops a0 V S L a w) {j : Nat} {s : Tmp} (hj : (ops[j]?).bind (·.dst) = some s) (hL : L j = true) : V j (a.eval (.tmp s)) w := by
  cases ho : ops[j]? with
  | none => rw [ho] at hj; cases hj
  | some o =>
    rw [ho] at hj
    exact h.done j o s ho hL hj
theorem RJ.old {ops : Array Oper} {a0 a : Act} {V : Nat → Value → World → Prop} {S : (Nat → Bool) → World → Prop} {L : Nat → Bool} {w : World} (h : RJ ops a0 V S L a w) {s : Tmp} (hs : dstNot ops s = true) {v : Value} (hv : a0.tmps[s]? = some v) : a.eval (.tmp s) = v := by
  have := h.other s fun j o hj _ => dstNot_spec hs hj
  simp only [Act.eval, Array.getD_eq_getD_getElem?, this, hv, Option.getD_some]
theorem dst_none {O Q : Nat → Prop} {B : Nat} {w : World} : ∀ es : Array Event, (∀ e ∈ es, NoE e) → DSt O Q B w w es := fun es h => ⟨rfl, rfl, rfl, Nat.le_refl _, fun _ _ _ _ => rfl, fun e he => (h e he).elim⟩

section
variable {g1 g2 B : Nat} {x y : M4} {w0 w w₁ : World} {a : Act} {o : Oper} {L : Nat → Bool} {i : Nat} {v : Value}
theorem cmp_fin (h : HC g1 g2 B x y w0 w) (hg : Grew w w₁) (hv : VC g1 g2 B x y i v w₁) : ∃ v', a.put o.dst v = a.put o.dst v' ∧ (o.dst ≠ none → VC g1 g2 B x y i v' w₁) ∧ HC g1 g2 B x y w0 w₁ ∧ ∀ j u, L j = true → VC g1 g2 B x y j u w → VC g1 g2 B x y j u w₁ :=
  ⟨v, rfl, fun _ => hv, h.grew hg, fun _ _ _ x => VC.grew hg x⟩
end

theorem fill3 (c1 c2 c3 : Int) : Instr.fill (fun i => some (i * 1, 1)) ((Array.range (3 * 1)).map ((Value.int .i64 0).cells[· % (Value.int .i64 0).cells.size]!)) [(0, .int .i64 c1), (1, .int .i64 c2), (2, .int .i64 c3)] = some (([c1, c2, c3]).map (Value.int .i64)).toArray := by
  kernel_rfl
theorem info3 : (Tryd.prog.info? 3).map (fun i => (i.zero, i.size, i.bytes)) = some (some (.int .i64 0), 1, 8) := by kernel_rfl

set_option maxRecDepth 100000 in
set_option maxHeartbeats 4000000 in
/-- ONE OPERATION OF Compare's. -/
theorem cmp_step {main : Bool} (O Q : Nat → Prop) (B : Nat) : ∃ c, ∀ (g1 g2 : Nat) (x y : M4) (w0 : World) (a0 : Act), a0.tmps[2]? = some (.pointer (some ⟨g1, 0, none⟩)) → a0.tmps[3]? = some (.pointer (some ⟨g2, 0, none⟩)) →
    ∀ i o, opsCmp[i]? = some o → ∀ L a w, L i = false → (∀ e ∈ o.after, Region.binds .any e = true → L e.on = true) → RJ opsCmp a0 (VC g1 g2 B x y) (fun _ w => HC g1 g2 B x y w0 w) L a w →
      Op1C Tryd.prog main AtRel (DSt O Q B) 16 opsCmp i c (fun a' w' => ∃ v, a' = a.put o.dst v ∧ (o.dst ≠ none → VC g1 g2 B x y i v w') ∧ HC g1 g2 B x y w0 w' ∧ ∀ j u, L j = true → VC g1 g2 B x y j u w → VC g1 g2 B x y j u w') a w := by
  have T := termsSt O Q B
  obtain ⟨n1, hci⟩ := cmpInt_c (main := main) T
  obtain ⟨n2, hcs⟩ := strCmp_c (main := main) T
  obtain ⟨n3, hor⟩ := or_c (main := main) O Q B
  refine ⟨n1 + n2 + n3 + 3, fun g1 g2 x y w0 a0 e1 e2 i o ho L a w hL hdep hJ => ?_⟩
  have f2 := hJ.old (s := 2) (by kernel_rfl) e1
  have f3 := hJ.old (s := 3) (by kernel_rfl) e2
  have rd : ∀ {w₁ : World}, AtRel w w₁ → Grew w w₁ := fun r => (Grew.refl w).rel r
  have fld : ∀ {k t s : Nat} {g : Nat} {v : Value}, k < 4 → o.op = .fieldAddr 34 (.tmp s) k → o.guard = none → a.eval (.tmp s) = .pointer (some ⟨g, 0, none⟩) → (∀ w₁, VC g1 g2 B x y i (.pointer (some ⟨g, 0 + k, none⟩)) w₁) →
      Op1C Tryd.prog main AtRel (DSt O Q B) 16 opsCmp i 1 (fun a' w' => ∃ v, a' = a.put o.dst v ∧ (o.dst ≠ none → VC g1 g2 B x y i v w') ∧ HC g1 g2 B x y w0 w' ∧ ∀ j u, L j = true → VC g1 g2 B x y j u w → VC g1 g2 B x y j u w') a w :=
    fun hk hop hgd hx hv => op1_yld ho (by simp [Region.wanted, hgd]) fun w₁ hR => ⟨_, w₁, NoE, yld_field34 hk hop hx, dst_none, cmp_fin hJ.s (rd hR) (hv w₁)⟩
  have ld : ∀ {s : Tmp} {t : TypeId} {g k : Nat} {z : M4} {u : Value}, o.op = .load t (.tmp s) → o.guard = none → (∀ w, (isAgg t).run Tryd.prog w = .ok false w) → a.eval (.tmp s) = .pointer (some ⟨g, k, none⟩) → (∀ w₁, HC g1 g2 B x y w0 w₁ → w₁.heap[g]? = some (.cells z.cells.toArray 34 (0, 0)) ∧ B ≤ g) →
      z.cells.toArray[k]? = some u → (∀ w₁, VC g1 g2 B x y i u w₁) →
      Op1C Tryd.prog main AtRel (DSt O Q B) 16 opsCmp i 1 (fun a' w' => ∃ v, a' = a.put o.dst v ∧ (o.dst ≠ none → VC g1 g2 B x y i v w') ∧ HC g1 g2 B x y w0 w' ∧ ∀ j u, L j = true → VC g1 g2 B x y j u w → VC g1 g2 B x y j u w') a w :=
    fun hop hgd hag hx hb hu hv => op1_yld ho (by simp [Region.wanted, hgd]) fun w₁ hR => by
      have h1 := hJ.s.rel hR
      obtain ⟨h2, h3⟩ := hb w₁ h1
      exact ⟨_, w₁, _, yld_load1 hop hx (by rw [cell_of_row _ _ _ _ _ _ h2]; exact hu) (hag _) (evAgg _), dst_read (.inr (.inl ⟨h3, heap_lt h2⟩)), cmp_fin hJ.s (rd hR) (hv w₁)⟩
  have call : ∀ {f : FuncId} {xs : Array Operand} {ats : Array TypeId} {nf : Nat} {u : Value} {ys : Array Value}, o.op = .call { callee := .value (.func f), args := xs, argTypes := ats } → o.guard = none → xs.map a.eval = ys → CallsC Tryd.prog main AtRel (DSt O Q B) f ys nf w (fun v w' => v = u ∧ Drawn w w') → (∀ w₁, VC g1 g2 B x y i u w₁) →
      Op1C Tryd.prog main AtRel (DSt O Q B) 16 opsCmp i (nf + 3) (fun a' w' => ∃ v, a' = a.put o.dst v ∧ (o.dst ≠ none → VC g1 g2 B x y i v w') ∧ HC g1 g2 B x y w0 w' ∧ ∀ j u, L j = true → VC g1 g2 B x y j u w → VC g1 g2 B x y j u w') a w :=
    fun {f xs ats nf u ys} hop hgd hxs hc hv => op1_call (Post := fun v w' => v = u ∧ Drawn w w') T ho (by simp [Region.wanted, hgd]) hop (by rw [hxs]; exact hc) fun v w' ⟨h1, h2⟩ => by
      subst h1
      exact cmp_fin hJ.s ((Grew.refl w).drawn h2) (hv w')
  have ci : ∀ a b : Int, CallsC Tryd.prog main AtRel (DSt O Q B) 25 #[.int .i64 a, .int .i64 b] n1 w (fun v w' => v = .int .i64 (sgn a b) ∧ Drawn w w') := fun a b => (hci a b w).mono fun v w' h => ⟨h.1, since_drawn h.2⟩
  have hb1 : ∀ w₁, HC g1 g2 B x y w0 w₁ → w₁.heap[g1]? = some (.cells x.cells.toArray 34 (0, 0)) ∧ B ≤ g1 := fun _ h => ⟨h.b1, h.n1⟩
  have hb2 : ∀ w₁, HC g1 g2 B x y w0 w₁ → w₁.heap[g2]? = some (.cells y.cells.toArray 34 (0, 0)) ∧ B ≤ g2 := fun _ h => ⟨h.b2, h.n2⟩
  have hlt : i < 18 := (Array.getElem?_eq_some_iff.1 ho).1
  have ho2 := ho
  simp only [opsCmp, bodyCmp, Tryd.f16, Option.getD_some] at ho2
  obtain rfl | rfl | rfl | rfl | rfl | rfl | rfl | rfl | rfl | rfl | rfl | rfl | rfl | rfl | rfl | rfl | rfl | rfl : i = 0 ∨ i = 1 ∨ i = 2 ∨ i = 3 ∨ i = 4 ∨ i = 5 ∨ i = 6 ∨ i = 7 ∨ i = 8 ∨ i = 9 ∨ i = 10 ∨ i = 11 ∨ i = 12 ∨ i = 13 ∨ i = 14 ∨ i = 15 ∨ i = 16 ∨ i = 17 := by omega
  all_goals simp only [List.getElem?_toArray, List.getElem?_cons_succ, List.getElem?_cons_zero, Option.some.injEq] at ho2
  all_goals subst ho2
  · exact op1_more (fld (k := 0) (t := 0) (v := undef) (by omega) rfl rfl f2 fun _ => rfl) (by omega)
  · exact op1_more (ld (z := x) (k := 0) rfl rfl Tryd.isAgg3 (hJ.val (j := 0) (s := 5) (by kernel_rfl) (hdep ⟨0, .data⟩ (by simp) rfl)) hb1 rfl fun _ => rfl) (by omega)
  · exact op1_more (fld (k := 0) (t := 0) (v := undef) (by omega) rfl rfl f3 fun _ => rfl) (by omega)
  · exact op1_more (ld (z := y) (k := 0) rfl rfl Tryd.isAgg3 (hJ.val (j := 2) (s := 7) (by kernel_rfl) (hdep ⟨2, .data⟩ (by simp) rfl)) hb2 rfl fun _ => rfl) (by omega)
  · have h1 : a.eval (.tmp 6) = .int .i64 x.t := hJ.val (j := 1) (s := 6) (by kernel_rfl) (hdep ⟨1, .data⟩ (by simp) rfl)
    have h2 : a.eval (.tmp 8) = .int .i64 y.t := hJ.val (j := 3) (s := 8) (by kernel_rfl) (hdep ⟨3, .data⟩ (by simp) rfl)
    exact op1_more (call rfl rfl (by simp [h1, h2]) (ci x.t y.t) fun _ => rfl) (by omega)
  · exact op1_more (fld (k := 1) (t := 0) (v := undef) (by omega) rfl rfl f2 fun _ => rfl) (by omega)
  · exact op1_more (ld (z := x) (k := 1) rfl rfl Tryd.isAgg9 (hJ.val (j := 5) (s := 10) (by kernel_rfl) (hdep ⟨5, .data⟩ (by simp) rfl)) hb1 rfl fun _ => rfl) (by omega)
  · exact op1_more (fld (k := 1) (t := 0) (v := undef) (by omega) rfl rfl f3 fun _ => rfl) (by omega)
  · exact op1_more (ld (z := y) (k := 1) rfl rfl Tryd.isAgg9 (hJ.val (j := 7) (s := 12) (by kernel_rfl) (hdep ⟨7, .data⟩ (by simp) rfl)) hb2 rfl fun _ => rfl) (by omega)
  · have h1 : a.eval (.tmp 11) = .string x.m := hJ.val (j := 6) (s := 11) (by kernel_rfl) (hdep ⟨6, .data⟩ (by simp) rfl)
    have h2 : a.eval (.tmp 13) = .string y.m := hJ.val (j := 8) (s := 13) (by kernel_rfl) (hdep ⟨8, .data⟩ (by simp) rfl)
    exact op1_more (call rfl rfl (by simp [h1, h2]) ((hcs x.m y.m w).mono fun v w' h => ⟨h.1, since_drawn h.2⟩) fun _ => rfl) (by omega)
  · exact op1_more (fld (k := 2) (t := 0) (v := undef) (by omega) rfl rfl f2 fun _ => rfl) (by omega)
  · exact op1_more (ld (z := x) (k := 2) rfl rfl Tryd.isAgg3 (hJ.val (j := 10) (s := 15) (by kernel_rfl) (hdep ⟨10, .data⟩ (by simp) rfl)) hb1 rfl fun _ => rfl) (by omega)
  · exact op1_more (fld (k := 2) (t := 0) (v := undef) (by omega) rfl rfl f3 fun _ => rfl) (by omega)
  · exact op1_more (ld (z := y) (k := 2) rfl rfl Tryd.isAgg3 (hJ.val (j := 12) (s := 17) (by kernel_rfl) (hdep ⟨12, .data⟩ (by simp) rfl)) hb2 rfl fun _ => rfl) (by omega)
  · have h1 : a.eval (.tmp 16) = .int .i64 x.s := hJ.val (j := 11) (s := 16) (by kernel_rfl) (hdep ⟨11, .data⟩ (by simp) rfl)
    have h2 : a.eval (.tmp 18) = .int .i64 y.s := hJ.val (j := 13) (s := 18) (by kernel_rfl) (hdep ⟨13, .data⟩ (by simp) rfl)
    exact op1_more (call rfl rfl (by simp [h1, h2]) (ci x.s y.s) fun _ => rfl) (by omega)
  · obtain ⟨i0, hi, hz0, hz1, hz2⟩ := info_parts info3
    have h1 : a.eval (.tmp 9) = .int .i64 (sgn x.t y.t) := hJ.val (j := 4) (s := 9) (by kernel_rfl) (hdep ⟨4, .data⟩ (by simp) rfl)
    have h2 : a.eval (.tmp 14) = .int .i64 (compareBytes x.m.data.toList y.m.data.toList) := hJ.val (j := 9) (s := 14) (by kernel_rfl) (hdep ⟨9, .data⟩ (by simp) rfl)
    have h3 : a.eval (.tmp 19) = .int .i64 (sgn x.s y.s) := hJ.val (j := 14) (s := 19) (by kernel_rfl) (hdep ⟨14, .data⟩ (by simp) rfl)
    refine op1_more (op1_yld ho rfl fun w₁ hR => ⟨_, _, _, yld_buildSlice (cells := (([sgn x.t y.t, compareBytes x.m.data.toList y.m.data.toList, sgn x.s y.s]).map (Value.int .i64)).toArray) rfl Tryd.underlying98 hi hz0 (by rw [hz1]; decide) (by rw [hz1]; decide) ?_, dst_new _, ?_⟩) (by omega)
    · have he : ((#[(0, Operand.tmp 9), (1, .tmp 14), (2, .tmp 19)] : Array (Nat × Operand)).map fun (i, x) => (i, a.eval x)).toList = [(0, .int .i64 (sgn x.t y.t)), (1, .int .i64 (compareBytes x.m.data.toList y.m.data.toList)), (2, .int .i64 (sgn x.s y.s))] := by simp [h1, h2, h3]
      rw [he, hz1]
      exact fill3 _ _ _
    · have h4 := hJ.s.rel hR
      refine cmp_fin hJ.s ((rd hR).alloc _) ⟨_, rfl, ?_, heap_alloc_new w₁ _⟩
      have := h4.n0
      have := h4.gr.size
      omega
  · obtain ⟨g, h1, h2, h3⟩ : VC g1 g2 B x y 15 (a.eval (.tmp 20)) w := hJ.val (j := 15) (s := 20) (by kernel_rfl) (hdep ⟨15, .data⟩ (by simp) rfl)
    exact op1_more (call rfl rfl (by simp [h1]) (hor g [sgn x.t y.t, compareBytes x.m.data.toList y.m.data.toList, sgn x.s y.s] w rfl h3 h2) fun _ => rfl) (by omega)
  · have h1 : a.eval (.tmp 21) = .int .i64 (cmpM x y) := hJ.val (j := 16) (s := 21) (by kernel_rfl) (hdep ⟨16, .data⟩ (by simp) rfl)
    exact op1_more (op1_yld ho rfl fun w₁ hR => ⟨_, w₁, NoE, yld_assign rfl h1, dst_none, cmp_fin hJ.s (rd hR) rfl⟩) (by omega)

set_option maxRecDepth 100000 in
/-- ████ Compare ████ -/
theorem compare_c {main : Bool} (O Q : Nat → Prop) (B : Nat) : ∃ n, ∀ (x y : M4) (w : World), B ≤ w.heap.size →
    CallsC Tryd.prog main AtRel (DSt O Q B) 16 #[x.val, y.val] n w fun v w' => v = .int .i64 (cmpM x y) ∧ Grew w w' := by
  have T := termsSt O Q B
  obtain ⟨c, hstep⟩ := cmp_step (main := main) O Q B
  co_apply Exists.intro
  intro x y w hB
  co_apply callsC_of_wpC Tryd.func16 (by rfl) rfl
  simp only [Tryd.ntmps16, List.size_toArray, List.length_cons, List.length_nil, Nat.reduceAdd, Nat.reduceSub, Array.replicate_succ, Array.replicate_zero, List.push_toArray, List.append_toArray, List.nil_append, List.cons_append]
  co_apply wpC_seq T
  co_reg T
  co_apply opsC_yld rfl (by rfl)
  intro w₁ hR
  have hG := (Grew.refl w).rel hR
  clear hR
  refine ⟨_, _, _, yld_box rfl, dst_new _, ?_⟩
  obtain ⟨g1, hg1⟩ : ∃ g, w₁.heap.size = g := ⟨_, rfl⟩
  have n1 : B ≤ g1 := by have := hG.size; omega
  have hb1 := heap_alloc_new w₁ (.cells (Value.cells (x.val)) 34)
  have hlt1 : g1 < (w₁.alloc (.cells (Value.cells (x.val)) 34)).heap.size := by simp [hg1]
  replace hG := hG.alloc (.cells (Value.cells (x.val)) 34)
  rw [hg1] at hb1
  walk_nrm
  rw [hg1]
  generalize hw : w₁.alloc _ = w₂ at hG hb1 hlt1 ⊢
  clear hw hg1 w₁
  co_apply opsC_yld rfl (by rfl)
  intro w₁ hR
  replace hG := hG.rel hR
  rw [← atRel_heap hR] at hb1 hlt1
  clear hR w₂
  refine ⟨_, _, _, yld_box rfl, dst_new _, ?_⟩
  obtain ⟨g2, hg2⟩ : ∃ g, w₁.heap.size = g := ⟨_, rfl⟩
  have n2 : B ≤ g2 := by have := hG.size; omega
  have hb2 := heap_alloc_new w₁ (.cells (Value.cells (y.val)) 34)
  have hb1' := (heap_alloc_old w₁ (.cells (Value.cells (y.val)) 34) g1 hlt1).trans hb1
  replace hG := hG.alloc (.cells (Value.cells (y.val)) 34)
  rw [hg2] at hb2
  walk_nrm
  rw [hg2]
  generalize hw : w₁.alloc _ = w₂ at hG hb1' hb2 ⊢
  clear hw hb1 hlt1 hg2 w₁
  have hF : HC g1 g2 B x y w w₂ := ⟨hG, hb1', hb2, n1, n2, hB⟩
  clear hG hb1' hb2 n1 n2
  co_op HC.rel hF (co_quiet T)
  co_apply opsC_nil T
  co_then
  co_apply wpC_seq T
  have hst := hstep g1 g2 x y w ⟨#[x.val, y.val, .pointer (some ⟨g1, 0, none⟩), .pointer (some ⟨g2, 0, none⟩), .int .i64 0, undef, undef, undef, undef, undef, undef, undef, undef, undef, undef, undef, undef, undef, undef, undef, undef, undef], []⟩ rfl rfl
  simp only [opsCmp, bodyCmp, Tryd.f16, Option.getD_some] at hst
  co_apply wpC_any T (drawSt O Q B) (by kernel_rfl) (c := c) (V := VC g1 g2 B x y) (S := fun _ w' => HC g1 g2 B x y w w') (by kernel_rfl) (by kernel_rfl) (by kernel_rfl)
  · intro w₁ hR; exact (hF.rel hR).rel ⟨_, rfl⟩
  · exact hst
  · intro L a w₁ hL hJ
    co_then
    co_apply wpC_ret T
    refine ⟨hJ.defers, _, resultsC_tmp (by rfl) _, ?_, hJ.s.gr⟩
    exact hJ.done 17 _ 4 rfl (hL 17 (by decide)) rfl
end Go.Proofs.YtmmjlngbiilagaaDoor

/-
  INSERTION SORT OF MESSAGES, in the sort's phase: what its operations do.
-/
namespace Go.Proofs.YtmmjlngbiilagaaDoor
open Go Go.Conc Go.RowKit Go.Lib

section
variable {o : Oper} {a : Act} {w : World}
theorem evUnd {P : Program} (t : TypeId) (es : Array Event) : (underlying t).events P w es = es := by
  unfold underlying
  rw [Sem.events_bind]
  simp only [run_program, Result.evThen_ok, events_program]
  split <;> rfl
/-- An element's address in a slice of messages. -/
theorem yld_index27 {x y : Operand} {g n cap j : Nat} (hj : j < n) (ho : o.op = .indexAddr 27 x y) (hx : a.eval x = .slice (some ⟨g, 0, none⟩) n cap) (hy : a.eval y = .int .i64 j) :
    Yld Tryd.prog o a w NoE (a.put o.dst (.pointer (some ⟨g, j * 4, none⟩))) w := by
  have hd : (⟨g, 0, none⟩ : Addr).add (j * 4) = ⟨g, j * 4, none⟩ := by rw [add0, Nat.zero_add]
  have h0 : (0 : Int) ≤ (j : Int) ∧ (j : Int) < (n : Int) := by omega
  refine yld_none ?_ ?_
  · unfold execOp
    simp [ho, hx, hy, Instr.indexAt, asIntOf, Tryd.runUnderlying27, Tryd.sizeOf34, hd, h0, hj]
  · unfold execOp
    simp [ho, hx, hy, Instr.indexAt, asIntOf, Tryd.runUnderlying27, Tryd.sizeOf34, hd, h0, hj, evUnd, evSize]
theorem yld_gtr {x y : Operand} {p q : Int} (ho : o.op = .binOp .gtr 3 x y 3) (hx : a.eval x = .int .i64 p) (hy : a.eval y = .int .i64 q) : Yld Tryd.prog o a w NoE (a.put o.dst (.bool (decide (q < p)))) w := by
  refine yld_none ?_ ?_
  · unfold execOp
    simp only [ho, hx, hy]
    simp [go_sem]
  · unfold execOp
    simp only [ho, hx, hy]
    simp [go_sem]
theorem yld_lss {x y : Operand} {p q : Int} (ho : o.op = .binOp .lss 3 x y 3) (hx : a.eval x = .int .i64 p) (hy : a.eval y = .int .i64 q) : Yld Tryd.prog o a w NoE (a.put o.dst (.bool (decide (p < q)))) w := by
  refine yld_none ?_ ?_
  · unfold execOp
    simp only [ho, hx, hy]
    simp [go_sem]
  · unfold execOp
    simp only [ho, hx, hy]
    simp [go_sem]
theorem yld_sub {x y : Operand} {p q : Int} (ho : o.op = .binOp .sub 3 x y 3) (hx : a.eval x = .int .i64 p) (hy : a.eval y = .int .i64 q) : Yld Tryd.prog o a w NoE (a.put o.dst (.int .i64 (IntKind.i64.wrap (p - q)))) w := by
  refine yld_none ?_ ?_
  · unfold execOp
    simp only [ho, hx, hy]
    simp [go_sem]
  · unfold execOp
    simp only [ho, hx, hy]
    simp [go_sem]
end
noncomputable def bodyIns : Code := Tryd.f42.body.getD .skip
noncomputable def loopIns : Code := match bodyIns with | .seq _ (.block _ (.loop c)) => c | _ => .skip
noncomputable def innerIns : Code := match loopIns with | .seq _ (.seq (.block _ (.seq _ (.block _ (.loop c)))) _) => c | _ => .skip
noncomputable def opsI4 : Array Oper := match innerIns with | .seq (.seq (.region _ ops _) _) _ => ops | _ => #[]
noncomputable def opsI6 : Array Oper := match innerIns with | .seq _ (.seq (.block _ (.region _ ops _)) _) => ops | _ => #[]

instance : Inhabited M4 := ⟨⟨0, .empty, 0, .empty⟩⟩

/-- The slice's block holds these messages; all else stands. -/
structure HS (gS cap : Nat) (l : List M4) (B : Nat) (w0 w : World) : Prop where
  blk : ∃ cur, w.heap[gS]? = some (.cells cur 34 (0, 0)) ∧ cur.size = cap * 4 ∧ ∀ (i : Nat) (x : M4), l[i]? = some x → ∀ (k : Nat) (v : Value), x.cells[k]? = some v → cur[i * 4 + k]? = some v
  tape : w.tape = w0.tape
  os : w.os = w0.os
  output : w.output = w0.output
  size : w0.heap.size ≤ w.heap.size
  other : ∀ b, b < w0.heap.size → b ≠ gS → w.heap[b]? = w0.heap[b]?
  n0 : B ≤ w0.heap.size

section
variable {gS cap B : Nat} {l : List M4} {w0 w w₁ : World}
theorem HS.grew (h : HS gS cap l B w0 w) (g : Grew w w₁) : HS gS cap l B w0 w₁ := by
  obtain ⟨cur, h1, h2, h3⟩ := h.blk
  exact ⟨⟨cur, (g.block gS (heap_lt h1)).trans h1, h2, h3⟩, g.tape.trans h.tape, g.os.trans h.os, g.output.trans h.output, Nat.le_trans h.size g.size, fun b hb hn => (g.block b (Nat.lt_of_lt_of_le hb h.size)).trans (h.other b hb hn), h.n0⟩
theorem HS.rel (h : HS gS cap l B w0 w) (r : AtRel w w₁) : HS gS cap l B w0 w₁ := h.grew ((Grew.refl w).rel r)
theorem HS.range (h : HS gS cap l B w0 w) {i : Nat} {x : M4} (hx : l[i]? = some x) : w.rangeAt gS (i * 4) x.cells := fun k v hv => by
  obtain ⟨cur, h1, h2, h3⟩ := h.blk
  rw [cell_of_row _ _ _ _ _ _ h1]
  exact h3 i x hx k v hv
theorem HS.lt (h : HS gS cap l B w0 w) : gS < w.heap.size := by obtain ⟨cur, h1, _⟩ := h.blk; exact heap_lt h1
end

/-- What the test's operations yield. -/
def VT (gS n cap j : Nat) (x y : M4) (p : Nat) (v : Value) : Prop :=
  match p with
  | 0 => v = .int .i64 j
  | 1 => v = .int .i64 0
  | 2 | 3 => v = .bool (decide ((0 : Int) < j))
  | 4 => 0 < j → v = .func (.func 16) #[] #[]
  | 5 | 9 => 0 < j → v = .slice (some ⟨gS, 0, none⟩) n cap
  | 6 | 10 => 0 < j → v = .int .i64 j
  | 7 => 0 < j → v = .pointer (some ⟨gS, j * 4, none⟩)
  | 8 => 0 < j → v = x.val
  | 11 => 0 < j → v = .int .i64 ((j - 1 : Nat) : Int)
  | 12 => 0 < j → v = .pointer (some ⟨gS, (j - 1) * 4, none⟩)
  | 13 => 0 < j → v = y.val
  | 14 => 0 < j → v = .int .i64 (cmpM x y)
  | 15 => 0 < j → v = .bool (decide (cmpM x y < 0))
  | _ => v = .bool (decide (0 < j ∧ cmpM x y < 0))

set_option maxRecDepth 100000 in
set_option maxHeartbeats 4000000 in
/-- ONE OPERATION OF THE TEST. -/
theorem test_step {main : Bool} (O Q : Nat → Prop) (B : Nat) : ∃ c, ∀ (gS n cap j : Nat) (x y : M4) (l : List M4) (w0 : World) (a0 : Act), O gS → j < n → j < 9223372036854775807 → (0 < j → l[j]? = some x ∧ l[j - 1]? = some y) →
    a0.tmps[0]? = some (.slice (some ⟨gS, 0, none⟩) n cap) → a0.tmps[1]? = some (.int .i64 0) → a0.tmps[3]? = some (.func (.func 16) #[] #[]) → a0.tmps[9]? = some (.int .i64 j) →
    ∀ i o, opsI4[i]? = some o → ∀ L a w, L i = false → (∀ e ∈ o.after, Region.binds .any e = true → L e.on = true) → RJ opsI4 a0 (fun p v _ => VT gS n cap j x y p v) (fun _ w => HS gS cap l B w0 w) L a w →
      Op1C Tryd.prog main AtRel (DSt O Q B) 42 opsI4 i c (fun a' w' => ∃ v, a' = a.put o.dst v ∧ (o.dst ≠ none → VT gS n cap j x y i v) ∧ HS gS cap l B w0 w' ∧ ∀ p u, L p = true → VT gS n cap j x y p u → VT gS n cap j x y p u) a w := by
  have T := termsSt O Q B
  obtain ⟨n1, hcmp⟩ := compare_c (main := main) O Q B
  refine ⟨n1 + 3, fun gS n cap j x y l w0 a0 hO hjn hj63 hxy e0 e1 e3 e9 i o ho L a w hL hdep hJ => ?_⟩
  have f0 := hJ.old (s := 0) (by kernel_rfl) e0
  have f1 := hJ.old (s := 1) (by kernel_rfl) e1
  have f3 := hJ.old (s := 3) (by kernel_rfl) e3
  have f9 := hJ.old (s := 9) (by kernel_rfl) e9
  have fin : ∀ {w₁ : World} {v : Value}, Grew w w₁ → VT gS n cap j x y i v → ∃ v', a.put o.dst v = a.put o.dst v' ∧ (o.dst ≠ none → VT gS n cap j x y i v') ∧ HS gS cap l B w0 w₁ ∧ ∀ p u, L p = true → VT gS n cap j x y p u → VT gS n cap j x y p u :=
    fun g hv => ⟨_, rfl, fun _ => hv, hJ.s.grew g, fun _ _ _ h => h⟩
  have rd : ∀ {w₁ : World}, AtRel w w₁ → Grew w w₁ := fun r => (Grew.refl w).rel r
  -- an operation that reads no memory
  have pure' : ∀ {v : Value}, Region.wanted o (yielded opsI4 a.tmps) = true → (∀ w₁, Yld Tryd.prog o a w₁ NoE (a.put o.dst v) w₁) → VT gS n cap j x y i v →
      Op1C Tryd.prog main AtRel (DSt O Q B) 42 opsI4 i (n1 + 3) (fun a' w' => ∃ v, a' = a.put o.dst v ∧ (o.dst ≠ none → VT gS n cap j x y i v) ∧ HS gS cap l B w0 w' ∧ ∀ p u, L p = true → VT gS n cap j x y p u → VT gS n cap j x y p u) a w :=
    fun {v} hw hy hv => op1_more (op1_yld ho hw fun w₁ hR => ⟨v, w₁, NoE, hy w₁, dst_none, fin (rd hR) hv⟩) (by omega)
  -- a guarded one that is not wanted
  have guard : (3 : Nat) = 3 → L 3 = true → yielded opsI4 a.tmps 3 = some (decide ((0 : Int) < j)) := fun _ h3 => by
    have h := hJ.done 3 _ 21 rfl h3 rfl
    have hlt : 21 < a.tmps.size := by
      rcases Nat.lt_or_ge 21 a.tmps.size with h' | h'
      · exact h'
      · have h0 : a.tmps.getD 21 undef = undef := by simp [Array.getD_eq_getD_getElem?, Array.getElem?_eq_none h']
        rw [h0] at h
        cases h
    have hs : a.tmps[21]? = some (.bool (decide ((0 : Int) < j))) := by
      have : a.tmps.getD 21 undef = .bool (decide ((0 : Int) < j)) := h
      rw [Array.getD_eq_getD_getElem?, Array.getElem?_eq_getElem hlt, Option.getD_some] at this
      rw [Array.getElem?_eq_getElem hlt, this]
    have hd : (opsI4[3]?).bind (·.dst) = some 21 := by kernel_rfl
    unfold yielded
    rw [hd]
    simp only [Option.bind_some, hs]
  have skip' : o.guard = some (3, true) → L 3 = true → ¬ 0 < j → VT gS n cap j x y i undef →
      Op1C Tryd.prog main AtRel (DSt O Q B) 42 opsI4 i (n1 + 3) (fun a' w' => ∃ v, a' = a.put o.dst v ∧ (o.dst ≠ none → VT gS n cap j x y i v) ∧ HS gS cap l B w0 w' ∧ ∀ p u, L p = true → VT gS n cap j x y p u → VT gS n cap j x y p u) a w :=
    fun hgd h3 hj hv => op1_more (op1_not T ho (by simp [Region.wanted, hgd, guard rfl h3]; omega) (fin (Grew.refl w) hv)) (by omega)
  have want : o.guard = some (3, true) → L 3 = true → 0 < j → Region.wanted o (yielded opsI4 a.tmps) = true := fun hgd h3 hj => by simp [Region.wanted, hgd, guard rfl h3]; omega
  have hlt : i < 17 := (Array.getElem?_eq_some_iff.1 ho).1
  have ho2 := ho
  simp only [opsI4, innerIns, loopIns, bodyIns, Tryd.f42, Option.getD_some] at ho2
  have hwr : 0 < j → IntKind.i64.wrap ((j : Int) - 1) = ((j - 1 : Nat) : Int) := fun h => by rw [IntKind.wrap_i64]; omega
  obtain rfl | rfl | rfl | rfl | rfl | rfl | rfl | rfl | rfl | rfl | rfl | rfl | rfl | rfl | rfl | rfl | rfl : i = 0 ∨ i = 1 ∨ i = 2 ∨ i = 3 ∨ i = 4 ∨ i = 5 ∨ i = 6 ∨ i = 7 ∨ i = 8 ∨ i = 9 ∨ i = 10 ∨ i = 11 ∨ i = 12 ∨ i = 13 ∨ i = 14 ∨ i = 15 ∨ i = 16 := by omega
  all_goals simp only [List.getElem?_toArray, List.getElem?_cons_succ, List.getElem?_cons_zero, Option.some.injEq] at ho2
  all_goals subst ho2
  · exact pure' rfl (fun _ => yld_move rfl f9) rfl
  · exact pure' rfl (fun _ => yld_move rfl f1) rfl
  · exact pure' rfl (fun _ => yld_gtr rfl (hJ.val (j := 0) (s := 18) (by kernel_rfl) (hdep ⟨0, .data⟩ (by simp) rfl)) (hJ.val (j := 1) (s := 19) (by kernel_rfl) (hdep ⟨1, .data⟩ (by simp) rfl))) rfl
  · exact pure' rfl (fun _ => yld_move rfl (hJ.val (j := 2) (s := 20) (by kernel_rfl) (hdep ⟨2, .data⟩ (by simp) rfl))) rfl
  all_goals by_cases hj : 0 < j
  all_goals try (exact skip' rfl (hdep ⟨3, .guard⟩ (by simp) rfl) hj (fun h => absurd h hj))
  · exact pure' (want rfl (hdep ⟨3, .guard⟩ (by simp) rfl) hj) (fun _ => yld_move rfl f3) (fun _ => rfl)
  · exact pure' (want rfl (hdep ⟨3, .guard⟩ (by simp) rfl) hj) (fun _ => yld_move rfl f0) (fun _ => rfl)
  · exact pure' (want rfl (hdep ⟨3, .guard⟩ (by simp) rfl) hj) (fun _ => yld_move rfl f9) (fun _ => rfl)
  · exact pure' (want rfl (hdep ⟨3, .guard⟩ (by simp) rfl) hj) (fun _ => yld_index27 hjn rfl (hJ.val (j := 5) (s := 23) (by kernel_rfl) (hdep ⟨5, .data⟩ (by simp) rfl) hj) (hJ.val (j := 6) (s := 24) (by kernel_rfl) (hdep ⟨6, .data⟩ (by simp) rfl) hj)) (fun _ => rfl)
  · refine op1_more (op1_yld ho (want rfl (hdep ⟨3, .guard⟩ (by simp) rfl) hj) fun w₁ hR => ⟨_, w₁, _, yld_load (cs := x.cells) rfl (hJ.val (j := 7) (s := 25) (by kernel_rfl) (hdep ⟨7, .data⟩ (by simp) rfl) hj) ((hJ.s.rel hR).range (hxy hj).1) (Tryd.isAgg34 _) (Tryd.sizeOf34 _) (evAgg _) (evSize _), dst_read (.inl hO), fin (rd hR) fun _ => rfl⟩) (by omega)
  · exact pure' (want rfl (hdep ⟨3, .guard⟩ (by simp) rfl) hj) (fun _ => yld_move rfl f0) (fun _ => rfl)
  · exact pure' (want rfl (hdep ⟨3, .guard⟩ (by simp) rfl) hj) (fun _ => yld_move rfl f9) (fun _ => rfl)
  · exact pure' (want rfl (hdep ⟨3, .guard⟩ (by simp) rfl) hj) (fun _ => yld_sub rfl (hJ.val (j := 10) (s := 28) (by kernel_rfl) (hdep ⟨10, .data⟩ (by simp) rfl) hj) rfl) (fun _ => by rw [hwr hj])
  · exact pure' (want rfl (hdep ⟨3, .guard⟩ (by simp) rfl) hj) (fun _ => yld_index27 (j := j - 1) (by omega) rfl (hJ.val (j := 9) (s := 27) (by kernel_rfl) (hdep ⟨9, .data⟩ (by simp) rfl) hj) (hJ.val (j := 11) (s := 29) (by kernel_rfl) (hdep ⟨11, .data⟩ (by simp) rfl) hj)) (fun _ => rfl)
  · refine op1_more (op1_yld ho (want rfl (hdep ⟨3, .guard⟩ (by simp) rfl) hj) fun w₁ hR => ⟨_, w₁, _, yld_load (cs := y.cells) rfl (hJ.val (j := 12) (s := 30) (by kernel_rfl) (hdep ⟨12, .data⟩ (by simp) rfl) hj) ((hJ.s.rel hR).range (hxy hj).2) (Tryd.isAgg34 _) (Tryd.sizeOf34 _) (evAgg _) (evSize _), dst_read (.inl hO), fin (rd hR) fun _ => rfl⟩) (by omega)
  · have h1 : a.eval (.tmp 26) = x.val := hJ.val (j := 8) (s := 26) (by kernel_rfl) (hdep ⟨8, .data⟩ (by simp) rfl) hj
    have h2 : a.eval (.tmp 31) = y.val := hJ.val (j := 13) (s := 31) (by kernel_rfl) (hdep ⟨13, .data⟩ (by simp) rfl) hj
    have h3 : a.eval (.tmp 22) = .func (.func 16) #[] #[] := hJ.val (j := 4) (s := 22) (by kernel_rfl) (hdep ⟨4, .data⟩ (by simp) rfl) hj
    refine op1_callV T ho (want rfl (hdep ⟨3, .guard⟩ (by simp) rfl) hj) rfl h3 (Post := fun v w' => v = .int .i64 (cmpM x y) ∧ Grew w w') ?_ (fun v w' ⟨hv, hg⟩ => by subst hv; exact fin hg fun _ => rfl)
    rw [show (#[Operand.tmp 26, Operand.tmp 31] : Array Operand).map a.eval = #[x.val, y.val] from by simp [h1, h2]]
    exact hcmp x y w (Nat.le_trans hJ.s.n0 hJ.s.size)
  · exact pure' (want rfl (hdep ⟨3, .guard⟩ (by simp) rfl) hj) (fun _ => yld_lss rfl (hJ.val (j := 14) (s := 32) (by kernel_rfl) (hdep ⟨14, .data⟩ (by simp) rfl) hj) rfl) (fun _ => rfl)
  · have h1 : a.eval (.tmp 21) = .bool (decide ((0 : Int) < j)) := hJ.val (j := 3) (s := 21) (by kernel_rfl) (hdep ⟨3, .data⟩ (by simp) rfl)
    have h2 : a.eval (.tmp 33) = .bool (decide (cmpM x y < 0)) := hJ.val (j := 15) (s := 33) (by kernel_rfl) (hdep ⟨15, .data⟩ (by simp) rfl) hj
    refine pure' rfl (fun _ => yld_pick rfl h1) ?_
    have hj' : (0 : Int) < j := by omega
    simp [VT, hj, hj', h2]
  · have h1 : a.eval (.tmp 21) = .bool (decide ((0 : Int) < j)) := hJ.val (j := 3) (s := 21) (by kernel_rfl) (hdep ⟨3, .data⟩ (by simp) rfl)
    refine pure' rfl (fun _ => yld_pick rfl h1) ?_
    have hj' : ¬ (0 : Int) < j := by omega
    simp [VT, hj, hj', Act.eval]
end Go.Proofs.YtmmjlngbiilagaaDoor
