/-
  TAME OPERATIONS at the high grade: maps by strings; the static check.
-/
import Derived.Test.YtmmjlngbiilagaaGreatDoorT14
import Derived.WalkKit
import Derived.WalkSpells
import Derived.WalkLawsBesides
import Derived.LoopTactic
import Derived.BigQuiet
import Derived.Deep.QuietTactic
import Derived.Lib.Hide
import Derived.Deep.AppendLies
import Derived.Deep.RegionLaw
import Derived.Below
import Derived.OwnWalk

namespace Go.Proofs.YtmmjlngbiilagaaGreatDoor
open Go Go.Conc

section
variable {K : Cfg} (L : Low K) (hg : K.gr = true) {o : Oper} {ok : TypeId → Bool} (hst : ∀ t, ok t = true → K.V.stoodInHeld t = K.P.stoodInHeld t)
include L
theorem t_checkKey {t : TypeId} (ht : K.P.underlying t = some .string) (b : Bool) (n : Nat) (v : Value) : Tame K (fun _ => True) (Instr.checkKey b n t v) := by
  cases n with
  | zero => exact t_limit _
  | succ n =>
    unfold Instr.checkKey
    refine t_bind (t_und L t) fun u hu => ?_
    rw [ht] at hu
    cases hu
    split <;> first | contradiction | exact t_pure trivial
theorem findNow_mem {kind : TypeDesc} {k : Value} : ∀ {es : List MapEntry} {i j : Nat} {v : Value}, Instr.findNow kind k es i = some (some (j, v)) → ∃ e ∈ es, e.val = v := by
  have _ := L
  intro es
  induction es with
  | nil => intro i j v h; cases h
  | cons e es ih =>
    intro i j v h
    simp only [Instr.findNow] at h
    split at h
    · cases h
      exact ⟨e, List.mem_cons_self .., rfl⟩
    · obtain ⟨e', h1, h2⟩ := ih h
      exact ⟨e', List.mem_cons_of_mem _ h1, h2⟩
    · cases h
include hst in
theorem t_findAsking {t : TypeId} (ht : eqTyB K.P ok 1 t = true) {k : Value} (hk : PFv K k) : ∀ (es : List MapEntry) (i : Nat), (∀ e ∈ es, PFv K e.key ∧ PFv K e.val) → Tame K (fun r : Option (Nat × Value) => ∀ j v, r = some (j, v) → PFv K v) (Instr.findAsking t k es i) := by
  intro es
  induction es with
  | nil => exact fun i _ => t_pure fun j v h => by cases h
  | cons e es ih =>
    intro i h
    unfold Instr.findAsking
    have he := h e (List.mem_cons_self ..)
    exact t_bind (t_equal L hst 1 _ t ht hk he.1) fun b _ => t_ite (t_pure fun j v h => by cases h; exact he.2) (ih _ fun e' h' => h e' (List.mem_cons_of_mem _ h'))
include hst in
theorem t_findKey {t : TypeId} (ht : eqTyB K.P ok 1 t = true) {k : Value} (hk : PFv K k) {es : List MapEntry} (hes : ∀ e ∈ es, PFv K e.key ∧ PFv K e.val) : Tame K (fun r : Option (Nat × Value) => ∀ j v, r = some (j, v) → PFv K v) (Instr.findKey t k es) := by
  unfold Instr.findKey
  refine t_bind (t_und L t) fun u _ => ?_
  split
  · rename_i r hr
    refine t_pure fun j v h => ?_
    subst h
    obtain ⟨e, he, rfl⟩ := findNow_mem L hr
    exact (hes e he).2
  · exact t_findAsking L hst ht hk es 0 hes
include hg hst in
theorem ok_lookup {t key elem : TypeId} {x y : Operand} {c : Bool} (h : o.op = .lookup t x y c) (ht : K.P.underlying t = some (.map key elem)) (hk : K.P.underlying key = some .string) (hx : OpdOk K x) (hy : OpdOk K y) : OpOk K o := fun ev he => by
  have hkt : eqTyB K.P ok 1 key = true := by simp [eqTyB, hk]
  unfold execOp; simp only [h]
  refine nv L ?_
  have hv := he.val hy
  generalize ev y = k at hv
  unfold Instr.lookup
  refine t_bind (t_und L t) fun u hu => ?_
  rw [ht] at hu
  cases hu
  dsimp only
  have tail : ∀ es : Array MapEntry, (∀ e ∈ es, PFv K e.key ∧ PFv K e.val) → Tame K (PFv K) (do
      Instr.checkKey es.isEmpty 10000 key k
      match ← Instr.findKey key k es.toList with
      | some (_, v) => do
        let r ← pure (v, true)
        match r with
        | (v, ok) => pure (if c = true then .tuple #[v, .bool ok] else v)
      | none => do
        let z ← zeroValue elem
        let r ← pure (z, false)
        match r with
        | (v, ok) => pure (if c = true then .tuple #[v, .bool ok] else v)) := fun es hes => by
    have fin : ∀ (v : Value) (b : Bool), PFv K v → PFv K (if c = true then .tuple #[v, .bool b] else v) := fun v b hv => by
      split
      · exact pf_tuple fun z hz => by
          simp only [List.mem_toArray, List.mem_cons, List.not_mem_nil, or_false] at hz
          rcases hz with rfl | rfl
          · exact hv
          · exact pf_bool _
      · exact hv
    refine t_bind (t_checkKey L hk _ _ _) fun _ _ => t_bind (t_findKey L hst hkt hv fun e he => hes e (by simpa using he)) fun r hr => ?_
    split
    · exact t_pure (fin _ _ (hr _ _ rfl))
    · exact t_bind (t_zero L elem) fun z hz => t_pure (fin _ _ hz)
  cases ev x with
  | map r =>
    cases r with
    | none => exact tail #[] (by simp)
    | some r =>
      refine t_getObjK L (.inl hg) (fun o ho => ?_) fun t => ⟨t_stuck _, fun o ho => .inr fun _ _ h => h⟩
      cases o with
      | map es _ => exact tail es ho.2
      | _ => exact t_stuck _
  | _ => exact t_stuck _
include hg hst in
theorem ok_mapUpdate {t key elem : TypeId} {m k x : Operand} (h : o.op = .mapUpdate t m k x) (ht : K.P.underlying t = some (.map key elem)) (hkt : K.P.underlying key = some .string) (hm : OpdOk K m) (hk : OpdOk K k) (hx : OpdOk K x) : OpOk K o := fun ev he => by
  have hkt' : eqTyB K.P ok 1 key = true := by simp [eqTyB, hkt]
  unfold execOp; simp only [h]
  refine nu L ?_
  have hv := he.val hk
  have hx' := he.val hx
  generalize ev k = kv at hv
  generalize ev x = xv at hx'
  unfold Instr.mapUpdate
  refine t_bind (t_und L t) fun u hu => ?_
  rw [ht] at hu
  cases hu
  dsimp only
  cases ev m with
  | map r =>
    cases r with
    | none => exact (t_prog (by simp only [rt_eq L]) trivial : Tame K (fun _ => True) (runtimePanic (.plain "assignment to entry in nil map") : Sem Unit))
    | some r =>
      refine t_getObjK L (.inl hg) (fun o ho => ?_) fun t => ⟨t_stuck _, fun o ho => .inr fun _ _ h => h⟩
      cases o with
      | map es clock =>
        refine t_bind (t_checkKey L hkt _ _ _) fun _ _ => t_bind (t_findKey L hst hkt' hv fun e he => ho.2 e (by simpa using he)) fun r _ => ?_
        split
        · rename_i i _ _
          refine t_bind (A := PFv K) ?_ fun key' hkey' => ?_
          · have hold : PFv K (((es[i]?).map (·.key)).getD kv) := by
              cases hi : es[i]? with
              | none => exact hv
              | some e => exact (ho.2 e (Array.mem_iff_getElem?.2 ⟨i, hi⟩)).1
            unfold Instr.keyThatStays
            refine t_ite (t_pure hv) (t_bind (A := fun _ => True) ⟨show (2 : Nat) ≠ 0 by decide, fun _ => trivial⟩ fun n _ => ?_)
            refine t_pure ?_
            split
            · exact hv
            · exact hold
          · refine ⟨hg, ⟨hg, fun e he => ?_⟩, trivial⟩
            obtain ⟨j, hj⟩ := Array.mem_iff_getElem?.1 he
            rw [Array.getElem?_modify] at hj
            split at hj
            · obtain ⟨e0, he0, rfl⟩ := Option.map_eq_some_iff.1 hj
              exact ⟨hkey', hx'⟩
            · exact ho.2 e (Array.mem_iff_getElem?.2 ⟨j, hj⟩)
        · refine ⟨hg, ⟨hg, fun e he => ?_⟩, trivial⟩
          rcases Array.mem_push.1 he with he | rfl
          · exact ho.2 e he
          · exact ⟨hv, hx'⟩
      | _ => exact t_stuck _
  | _ => exact t_stuck _
include hg in
theorem ok_makeMap {t : TypeId} (h : o.op = .makeMap t none) : OpOk K o := fun ev he => by
  unfold execOp; simp only [h]
  refine nv L ?_
  show Tame K (PFv K) (Instr.makeMap t none)
  unfold Instr.makeMap
  exact t_bind (A := fun _ => True) ⟨⟨hg, by simp⟩, fun _ _ => trivial⟩ fun r _ => t_pure (.inr (.map _))
end
end Go.Proofs.YtmmjlngbiilagaaGreatDoor

/-
  THE STATIC CHECK at the high grade: a Boolean by which the code of a function is tame; a pruned program by it.
-/
namespace Go.Proofs.YtmmjlngbiilagaaGreatDoor
open Go Go.Conc

def opdH (gl : Nat → Bool) : Operand → Bool
  | .const c => constB c
  | .global g => gl g
  | _ => true
def isPtrP (P : Program) (t : TypeId) : Bool := match P.underlying t with
  | some (.pointer _) => true
  | _ => false
def isFunP (P : Program) (t : TypeId) : Bool := match P.underlying t with
  | some (.func ..) => true
  | _ => false
def isMapP (P : Program) (t : TypeId) : Bool := match P.underlying t with
  | some (.map k _) => isStrP P k
  | _ => false
def isBytesP (P : Program) (t : TypeId) : Bool := match P.underlying t with
  | some (.slice e) => (match P.underlying e with | some (.int .u8) => true | _ => false)
  | _ => false
def isNilPtr : Operand → Bool
  | .const (.pointer none) => true
  | _ => false
/-- Kinds of types, told by lists. -/
structure TyB where
  eqT : TypeId → Bool
  ptr : TypeId → Bool
  fun_ : TypeId → Bool
  int : TypeId → Bool
  byt : TypeId → Bool
  str : TypeId → Bool
  map : TypeId → Bool
  slc : TypeId → Bool
structure TyOk (P : Program) (ok : TypeId → Bool) (T : TyB) : Prop where
  eqT : ∀ t, T.eqT t = true → eqTyB P ok 3 t = true
  ptr : ∀ t, T.ptr t = true → isPtrP P t = true
  fun_ : ∀ t, T.fun_ t = true → isFunP P t = true
  int : ∀ t, T.int t = true → isIntP P t = true
  byt : ∀ t, T.byt t = true → isBytesP P t = true
  str : ∀ t, T.str t = true → isStrP P t = true
  map : ∀ t, T.map t = true → isMapP P t = true
  slc : ∀ t, T.slc t = true → isSlcP P t = true
def eqOp : BinOp → Bool
  | .eql | .neq => true
  | _ => false
def opH (T : TyB) (gl : Nat → Bool) (o : Oper) : Bool :=
  match o.op with
  | .move x | .assign x => opdH gl x
  | .pick _ a b => opdH gl a && opdH gl b
  | .alloc _ => true
  | .box _ x => opdH gl x
  | .buildSlice _ _ parts => parts.all fun p => opdH gl p.2
  | .build _ parts => parts.all fun p => opdH gl p.2
  | .load _ a => opdH gl a
  | .store _ a x => opdH gl a && opdH gl x
  | .nilCheck x => opdH gl x
  | .binOp op t x y _ => opdH gl x && opdH gl y && (T.eqT t || (T.ptr t && isNilPtr y && eqOp op) || T.fun_ t)
  | .unOp .. => true
  | .convert s d x => (T.int s && T.int d) || (T.byt s && T.str d && opdH gl x)
  | .fieldAddr _ x _ => opdH gl x
  | .indexAddr _ x _ => opdH gl x
  | .index t _ _ => T.str t
  | .slice _ x _ _ _ => opdH gl x
  | .extract x _ => opdH gl x
  | .makeInterface _ x => opdH gl x
  | .lookup t x y _ => T.map t && opdH gl x && opdH gl y
  | .mapUpdate t m k x => T.map t && opdH gl m && opdH gl k && opdH gl x
  | .makeMap _ none => true
  | .call { callee := .value x, args, .. } => opdH gl x && args.all (opdH gl)
  | .call { callee := .builtin .len, args, argTypes } => args.size == 1 && argTypes.size == 1 && argTypes.all fun t => T.str t || T.slc t
  | .call { callee := .builtin .append, args, argTypes } => args.size == 2 && args.all (opdH gl) && argTypes.size == 2 && argTypes.all fun t => T.slc t
  | _ => false
def codeH (T : TyB) (gl : Nat → Bool) : Code → Bool
  | .skip | .ret | .label _ | .exit _ | .refuse _ => true
  | .seq a b | .cond _ a b => codeH T gl a && codeH T gl b
  | .region _ ops _ => ops.all (opH T gl)
  | .block _ c | .loop c | .scope c => codeH T gl c
  | _ => false

section
variable {K : Cfg} (L : Low K) (hg : K.gr = true) (hcalls : CallsOk K) {ok : TypeId → Bool} {T : TyB} {gl : Nat → Bool} (hT : TyOk K.P ok T) (hst : ∀ t, ok t = true → K.V.stoodInHeld t = K.P.stoodInHeld t) (hgl : ∀ g, gl g = true → PFb K g)
include hgl in
theorem opdH_ok : ∀ {x : Operand}, opdH gl x = true → OpdOk K x
  | .const _, h => constB_pf h
  | .tmp _, _ => trivial
  | .global _, h => hgl _ h
  | .func _, _ => trivial
theorem arr2 {α : Type} {a : Array α} (h : a.size = 2) : ∃ x y, a = #[x, y] := by
  obtain ⟨l⟩ := a
  match l, h with
  | [x, y], _ => exact ⟨x, y, rfl⟩
include L hg hcalls hT hst hgl
theorem opH_ok {o : Oper} (h : opH T gl o = true) : OpOk K o := by
  have od : ∀ {x : Operand}, opdH gl x = true → OpdOk K x := opdH_ok hgl
  unfold opH at h
  split at h
  · exact ok_move L ‹_› (od h)
  · exact ok_assign L ‹_› (od h)
  · simp only [Bool.and_eq_true] at h; exact ok_pick L ‹_› (od h.1) (od h.2)
  · exact ok_alloc L ‹_›
  · exact ok_box L ‹_› (od h)
  · exact ok_buildSlice L ‹_› fun p hp => od (Array.all_eq_true_iff_forall_mem.1 h p hp)
  · exact ok_build L ‹_› fun p hp => od (Array.all_eq_true_iff_forall_mem.1 h p hp)
  · exact ok_load L ‹_› (od h)
  · simp only [Bool.and_eq_true] at h; exact ok_store L ‹_› (od h.1) (od h.2)
  · exact ok_nilCheck L ‹_› (od h)
  · simp only [Bool.and_eq_true, Bool.or_eq_true] at h
    obtain ⟨⟨hx, hy⟩, (ht | ⟨⟨h1, h2⟩, h3⟩) | ht⟩ := h
    · exact ok_binEq L hst ‹_› (hT.eqT _ ht) (od hx) (od hy)
    · rename_i op t x y _ hop
      replace h1 := hT.ptr _ h1
      replace h3 : op = .eql ∨ op = .neq := by
        cases op <;> first | exact .inl rfl | exact .inr rfl | cases h3
      unfold isNilPtr at h2
      split at h2
      · unfold isPtrP at h1
        split at h1
        · exact ok_eqNilPtr L hop ⟨_, ‹_›⟩ h3 (od hx)
        · cases h1
      · cases h2
    · replace ht := hT.fun_ _ ht
      unfold isFunP at ht
      split at ht
      · exact ok_eqFunc L ‹_› ⟨_, _, _, ‹_›⟩ (od hx) (od hy)
      · cases ht
  · exact ok_unOp L ‹_›
  · simp only [Bool.and_eq_true, Bool.or_eq_true] at h
    rcases h with h | ⟨⟨h1, h2⟩, h3⟩
    · exact ok_convert L ‹_› (isIntP_ok _ (hT.int _ h.1)) (isIntP_ok _ (hT.int _ h.2))
    · replace h1 := hT.byt _ h1
      unfold isBytesP at h1
      split at h1
      · rename_i he
        split at h1
        · exact ok_bytesToString L ‹_› he ‹_› (isStrP_ok _ (hT.str _ h2)) (od h3)
        · cases h1
      · cases h1
  · exact ok_fieldAddr L ‹_› (od h)
  · exact ok_indexAddr L ‹_› (od h)
  · exact ok_index L ‹_› (isStrP_ok _ (hT.str _ h))
  · exact ok_slice L ‹_› (od h)
  · exact ok_extract L ‹_› (od h)
  · exact ok_makeInterface L ‹_› (od h)
  · simp only [Bool.and_eq_true] at h
    obtain ⟨⟨h1, h2⟩, h3⟩ := h
    replace h1 := hT.map _ h1
    unfold isMapP at h1
    split at h1
    · exact ok_lookup L hg hst ‹_› ‹_› (isStrP_ok _ h1) (od h2) (od h3)
    · cases h1
  · simp only [Bool.and_eq_true] at h
    obtain ⟨⟨⟨h1, h2⟩, h3⟩, h4⟩ := h
    replace h1 := hT.map _ h1
    unfold isMapP at h1
    split at h1
    · exact ok_mapUpdate L hg hst ‹_› ‹_› (isStrP_ok _ h1) (od h2) (od h3) (od h4)
    · cases h1
  · exact ok_makeMap L hg ‹_›
  · simp only [Bool.and_eq_true] at h; exact ok_callV L ‹_› rfl (od h.1) (fun y hy => od (Array.all_eq_true_iff_forall_mem.1 h.2 y hy)) hcalls
  · rename_i args ts hop
    simp only [Bool.and_eq_true, beq_iff_eq] at h
    obtain ⟨x, rfl⟩ := Array.size_eq_one_iff.1 h.1.1
    obtain ⟨t, rfl⟩ := Array.size_eq_one_iff.1 h.1.2
    have ht := Array.all_eq_true_iff_forall_mem.1 h.2 t (by simp)
    rcases Bool.or_eq_true _ _ ▸ ht with ht | ht
    · exact ok_len L (e := 0) hop rfl (.inr (isStrP_ok _ (hT.str _ ht)))
    · obtain ⟨e, he⟩ := isSlcP_ok _ (hT.slc _ ht)
      exact ok_len L (e := e) hop rfl (.inl he)
  · rename_i args ts hop
    simp only [Bool.and_eq_true, beq_iff_eq] at h
    obtain ⟨x, y, rfl⟩ := arr2 h.1.1.1
    obtain ⟨t, t', rfl⟩ := arr2 h.1.2
    have ht := Array.all_eq_true_iff_forall_mem.1 h.2 t' (by simp)
    exact ok_append L hg hop rfl (isSlcP_ok _ (hT.slc _ ht)) (od (Array.all_eq_true_iff_forall_mem.1 h.1.1.2 x (by simp))) (od (Array.all_eq_true_iff_forall_mem.1 h.1.1.2 y (by simp)))
  · cases h
theorem codeH_ok : ∀ {c : Code}, codeH T gl c = true → CodeOk K c := by
  intro c
  induction c with
  | seq a b iha ihb => exact fun h => by simp only [codeH, Bool.and_eq_true] at h; exact ⟨iha h.1, ihb h.2⟩
  | cond o a b iha ihb => exact fun h => by simp only [codeH, Bool.and_eq_true] at h; exact ⟨iha h.1, ihb h.2⟩
  | region id ops d => exact fun h i o ho => opH_ok L hg hcalls hT hst hgl (Array.all_eq_true_iff_forall_mem.1 h o (Array.mem_iff_getElem?.2 ⟨i, ho⟩))
  | block n c ih => exact fun h => ih h
  | loop c ih => exact fun h => ih h
  | scope c ih => exact fun h => ih h
  | rangeFunc => exact fun h => by cases h
  | goto => exact fun h => by cases h
  | _ => exact fun _ => trivial
end
end Go.Proofs.YtmmjlngbiilagaaGreatDoor

/-
  THE PROGRAM OF GOROUTINE 0's CALLEES: what is walked alone.
-/
namespace Go.Proofs.YtmmjlngbiilagaaGreatDoor
open Go Go.Conc

theorem t_resultsH {K : Cfg} (L : Low K) (fn : Func) {tmps : Array Value} (ht : ∀ x ∈ tmps, PFv K x) : Tame K (PFv K) (results fn tmps) := by
  have hat : ∀ t, PFv K (tmps.getD t undef) := fun t => by
    rw [Array.getD_eq_getD_getElem?]
    cases he : tmps[t]? with
    | none => exact .undef K
    | some x => exact ht x (Array.mem_iff_getElem?.2 ⟨t, he⟩)
  unfold results
  refine t_bind (A := fun vs : Array Value => ∀ x ∈ vs, PFv K x) (t_mapMA (fun r => ?_) _) fun vs hvs => ?_
  · cases r with
    | tmp t => exact t_pure (hat t)
    | cell a t => exact t_bind (t_asAddr L (hat a)) fun ad _ => t_loadVar L t ad
  · split
    · exact t_pure (hvs _ (Array.getElem_mem _))
    · exact t_pure (pf_tuple hvs)
/-- What the check asks of a kept function. -/
def fnH (T : TyB) (gl : Nat → Bool) (keep : Nat → Bool) (i : Nat) (fn : Func) : Bool :=
  !(fn.name == "runtime.NumGoroutine") && (!keep i || match fn.body with
    | none => false
    | some c => codeH T gl c)
section
variable {K : Cfg} (L : Low K) (hg : K.gr = true) {keep : Nat → Bool} {ok : TypeId → Bool} {T : TyB} {gl : Nat → Bool} (hT : TyOk K.P ok T) (hst : ∀ t, ok t = true → K.V.stoodInHeld t = K.P.stoodInHeld t) (hgl : ∀ g, gl g = true → PFb K g)
  (hV : K.V = prunedOf K.P keep) (hB : ∀ (f : Nat) (fn : Func), K.P.funcs[f]? = some fn → fnH T gl keep f fn = true) (hrows : ∀ r, K.rows r = false)
include L hV hB in
theorem callsOkH : CallsOk K :=
  callsOk (keep := keep) L (fun f => by rw [hV]; exact prunedOf_at _ _ _) (fun f fn hf => by
    have := hB f fn hf
    simp only [fnH, Bool.and_eq_true, Bool.not_eq_true'] at this
    exact this.1) fun f fn hk hf hb => by
    have := hB f fn hf
    simp only [fnH, Bool.and_eq_true, Bool.not_eq_true', hk, Bool.not_true, Bool.false_or, hb] at this
    exact absurd this.2 (by simp)
include L hg hT hst hgl hV hB hrows
theorem prune_byH : Prune K where
  tables := by rw [hV]; rfl
  size := by rw [hV]; simp [prunedOf]
  keep := fun f fn h => by
    rw [hV, prunedOf_at] at h
    cases hP : K.P.funcs[f]? with
    | none => rw [hP] at h; cases h
    | some g =>
      rw [hP] at h
      simp only [Option.map_some, Option.some.injEq] at h
      have hb := hB f g hP
      simp only [fnH, Bool.and_eq_true, Bool.not_eq_true'] at hb
      by_cases hk : keep f = true
      · simp only [hk, if_true] at h
        subst h
        simp only [hk, Bool.not_true, Bool.false_or] at hb
        refine .inl ⟨rfl, fun c hc => ?_, fun tmps ht => t_resultsH L _ ht⟩
        have h2 := hb.2
        rw [hc] at h2
        exact codeH_ok L hg (callsOkH L hV hB) hT hst hgl h2
      · simp only [hk, if_false, Bool.false_eq_true] at h
        subst h
        unfold dumb
        split
        · exact .inr (.inl ⟨_, rfl⟩)
        · exact .inr (.inr rfl)
  rows := fun r hr => by rw [hrows r] at hr; cases hr
end

def keepH : List Nat := [4, 7, 8, 10, 11, 12, 15, 17, 22, 23,
  26, 34, 37, 38, 39, 63, 64, 65, 66, 84, 85,
  89, 90, 91, 93, 100, 101, 103, 104, 105, 106,
  107, 108, 110, 111, 80, 130, 146, 147, 148]
def keptH (i : Nat) : Bool := keepH.any (· == i)
def okH (t : TypeId) : Bool := t == 49
def glH (g : Nat) : Bool := g == 2 || g == 3 || g == 4 || g == 5
def inL (l : List Nat) (t : Nat) : Bool := l.any (· == t)
theorem inL_ok {l : List Nat} {p : Nat → Bool} (h : l.all p = true) : ∀ t, inL l t = true → p t = true := fun t ht => by
  obtain ⟨x, hx, e⟩ := List.any_eq_true.1 ht
  simp only [beq_iff_eq] at e
  exact e ▸ List.all_eq_true.1 h x hx
def TH : TyB where
  eqT := inL [3, 2, 5, 9, 86, 89, 122, 21, 40, 49]
  ptr := inL [35]
  fun_ := inL [181]
  int := inL [3, 2, 5, 86, 89, 122, 21, 40]
  byt := inL [164]
  str := inL [9]
  map := inL [114]
  slc := inL [22, 23, 28, 44, 164, 180, 186]
theorem TH_ok : TyOk Tryz.prog okH TH where
  eqT := inL_ok (by kernel_rfl)
  ptr := inL_ok (by kernel_rfl)
  fun_ := inL_ok (by kernel_rfl)
  int := inL_ok (by kernel_rfl)
  byt := inL_ok (by kernel_rfl)
  str := inL_ok (by kernel_rfl)
  map := inL_ok (by kernel_rfl)
  slc := inL_ok (by kernel_rfl)
theorem checkH : allFns (fnH TH glH keptH) 0 Tryz.prog.funcs.toList = true := by kernel_rfl
noncomputable abbrev Vh : Program := prunedOf Tryz.prog keptH
section
variable {K : Cfg} (L : Low K)
include L
theorem underlyingId_eq (t : TypeId) : K.V.underlyingId t = K.P.underlyingId t := by unfold Program.underlyingId; simp only [info_eq L]
theorem alike_eq : ∀ (n : Nat) (t u : TypeId), K.V.alikeButTags n t u = K.P.alikeButTags n t u := by
  intro n
  induction n with
  | zero => intro t u; rfl
  | succ n ih => intro t u; unfold Program.alikeButTags; simp only [info_eq L, ih]
theorem stoodInHeld_eq (t : TypeId) : K.V.stoodInHeld t = K.P.stoodInHeld t := by
  have hc : K.V.cutTypes = K.P.cutTypes := by rw [L.tables]
  unfold Program.stoodInHeld Program.stoodInAs
  simp only [info_eq L, und_eq L, hc, alike_eq L, underlyingId_eq L, depth_eq L]
end
section
variable {Gd : GB} {B : Nat} (hn : ∀ b, B ≤ b → Gd b)
include hn
theorem lowH : Low (cfgV Vh Tryz.prog Gd B) := ⟨rfl, hn, fun t i z h e => zero_info checkZ t i z h e⟩
variable (hgl : ∀ g, glH g = true → Gd g)
theorem fnsH (f : Nat) (fn : Func) (h : Tryz.prog.funcs[f]? = some fn) : fnH TH glH keptH f fn = true := by
  have _ := hn
  have := allFns_at checkH f fn (by rw [← h]; exact Array.getElem?_toList)
  rwa [Nat.zero_add] at this
theorem okH_st (t : TypeId) (_ : okH t = true) : Vh.stoodInHeld t = Tryz.prog.stoodInHeld t := stoodInHeld_eq (lowH hn) t
include hgl
theorem pruneH : Prune (cfgV Vh Tryz.prog Gd B) :=
  prune_byH (lowH hn) rfl (keep := keptH) (ok := okH) (gl := glH) (T := TH) TH_ok (fun t h => okH_st hn t h) (fun g h => .inr (hgl g h)) rfl (fun f fn h => fnsH hn f fn h) fun _ => rfl
/-- An operation by the check. -/
theorem opsH {o : Oper} (h : opH TH glH o = true) : OpOk (cfgV Vh Tryz.prog Gd B) o :=
  opH_ok (lowH hn) rfl (callsOkH (keep := keptH) (T := TH) (gl := glH) (lowH hn) rfl fun f fn h => fnsH hn f fn h) TH_ok (fun t h => okH_st hn t h) (fun g h => .inr (hgl g h)) h
end
end Go.Proofs.YtmmjlngbiilagaaGreatDoor

/-
  ALONE, at goroutine 0's program: letters, digits; the reference's check of a member.
-/
namespace Go.Proofs.YtmmjlngbiilagaaGreatDoor
open Go Go.Conc Go.Shelf Go.RowKit Go.Lib

theorem Vh.fn {f : Nat} {fn : Func} (h : Tryz.prog.funcs[f]? = some fn) (hk : keptH f = true) : Vh.funcs[f]? = some fn := pr_func hk h
def isL (c : Int) : Bool := decide (65 ≤ c) && decide (c ≤ 90)
def isD (c : Int) : Bool := decide (48 ≤ c) && decide (c ≤ 57)
theorem ret_bool {a b : Bool} (h : a = b) : Ending.returned (.bool a) = .returned (.bool b) := by rw [h]
set_option maxRecDepth 100000 in
set_option maxHeartbeats 1000000 in
theorem rletter_calls (c : Int) (w : World) : Calls Vh 100 #[.int .u8 c] w fun e w' => e = .returned (.bool (isL c)) ∧ w = w' := by
  have hF : Vh.funcs[100]? = some Tryz.f100 := Vh.fn Tryz.func100 (by kernel_rfl)
  go_enter hF, Tryz.ntmps100
  go_wp2
  all_goals
    go_ret
    refine ⟨ret_bool ?_, rfl⟩
    unfold isL
    simp [*]
    try (intros; omega)
set_option maxRecDepth 100000 in
set_option maxHeartbeats 1000000 in
theorem rdigit_calls (c : Int) (w : World) : Calls Vh 101 #[.int .u8 c] w fun e w' => e = .returned (.bool (isD c)) ∧ w = w' := by
  have hF : Vh.funcs[101]? = some Tryz.f101 := Vh.fn Tryz.func101 (by kernel_rfl)
  go_enter hF, Tryz.ntmps101
  go_wp2
  all_goals
    go_ret
    refine ⟨ret_bool ?_, rfl⟩
    unfold isD
    simp [*]
    try (intros; omega)
set_option maxRecDepth 100000 in
set_option maxHeartbeats 1000000 in
theorem letter_calls (c : Int) (w : World) : Calls Vh 146 #[.int .u8 c] w fun e w' => e = .returned (.bool (isL c)) ∧ w = w' := by
  have hF : Vh.funcs[146]? = some Tryz.f146 := Vh.fn Tryz.func146 (by kernel_rfl)
  go_enter hF, Tryz.ntmps146
  go_wp2
  all_goals
    go_ret
    refine ⟨ret_bool ?_, rfl⟩
    unfold isL
    simp [*]
    try (intros; omega)
set_option maxRecDepth 100000 in
set_option maxHeartbeats 1000000 in
theorem digit_calls (c : Int) (w : World) : Calls Vh 148 #[.int .u8 c] w fun e w' => e = .returned (.bool (isD c)) ∧ w = w' := by
  have hF : Vh.funcs[148]? = some Tryz.f148 := Vh.fn Tryz.func148 (by kernel_rfl)
  go_enter hF, Tryz.ntmps148
  go_wp2
  all_goals
    go_ret
    refine ⟨ret_bool ?_, rfl⟩
    unfold isD
    simp [*]
    try (intros; omega)
theorem enterV {f : Nat} {fn : Func} {c : Code} (h : Tryz.prog.funcs[f]? = some fn) (hk : keptH f = true) (hn : (fn.name == "runtime.NumGoroutine") = false) (hb : fn.body = some c) : ∀ args w, (callFunc f args).run Vh w = .ok (.enter f args) w := enters_of (Vh.fn h hk) hn (by rw [hb])
set_option maxRecDepth 100000 in
set_option maxHeartbeats 1000000 in
theorem alnum_calls (c : Int) (w : World) : Calls Vh 147 #[.int .u8 c] w fun e w' => e = .returned (.bool (isL c || isD c)) ∧ w = w' := by
  have hF : Vh.funcs[147]? = some Tryz.f147 := Vh.fn Tryz.func147 (by kernel_rfl)
  have e1 := enterV Tryz.func146 (by kernel_rfl) (by kernel_rfl) rfl
  have e2 := enterV Tryz.func148 (by kernel_rfl) (by kernel_rfl) rfl
  have h1 := fun W => letter_calls c W
  have h2 := fun W => digit_calls c W
  generalize isL c = a at *
  generalize isD c = b at *
  go_enter hF, Tryz.ntmps147
  cases a <;> cases b
  all_goals
    go_wp2_with (first
      | (go_at_call 146; refine (h1 _).mono ?_; rintro e w' ⟨rfl, rfl⟩)
      | (go_at_call 148; refine (h2 _).mono ?_; rintro e w' ⟨rfl, rfl⟩))
    go_ret
    exact ⟨rfl, rfl⟩
/-- May a letter stand there? -/
def mayB (i c : Int) : Bool := isL c || (decide (0 < i) && isD c)
set_option maxRecDepth 100000 in
set_option maxHeartbeats 1000000 in
theorem may_calls (i c : Int) (w : World) : Calls Vh 85 #[.int .i64 1, .int .i64 i, .int .u8 c] w fun e w' => e = .returned (.bool (mayB i c)) ∧ w = w' := by
  have hF : Vh.funcs[85]? = some Tryz.f85 := Vh.fn Tryz.func85 (by kernel_rfl)
  have e1 := enterV Tryz.func100 (by kernel_rfl) (by kernel_rfl) rfl
  have e2 := enterV Tryz.func101 (by kernel_rfl) (by kernel_rfl) rfl
  have h1 := fun W => rletter_calls c W
  have h2 := fun W => rdigit_calls c W
  unfold mayB
  generalize isL c = a at *
  generalize isD c = b at *
  go_enter hF, Tryz.ntmps85
  by_cases hi : 0 < i
  · cases a <;> cases b
    all_goals
      go_wp2_with (first
        | (go_at_call 100; refine (h1 _).mono ?_; rintro e w' ⟨rfl, rfl⟩)
        | (go_at_call 101; refine (h2 _).mono ?_; rintro e w' ⟨rfl, rfl⟩))
      go_ret
      exact ⟨by simp [hi], rfl⟩
  · have hi' : decide (0 < i) = false := by simp; omega
    cases a <;> cases b
    all_goals
      go_wp2_with (first
        | (go_at_call 100; refine (h1 _).mono ?_; rintro e w' ⟨rfl, rfl⟩)
        | (go_at_call 101; refine (h2 _).mono ?_; rintro e w' ⟨rfl, rfl⟩))
      go_ret
      exact ⟨by simp [hi], rfl⟩
end Go.Proofs.YtmmjlngbiilagaaGreatDoor

/-
  ALONE: the reference's check of a member's code.
-/
namespace Go.Proofs.YtmmjlngbiilagaaGreatDoor
open Go Go.Conc Go.Shelf Go.RowKit Go.Lib

def GoodTo (s : ByteArray) (k : Nat) : Prop := ∀ (j : Nat) (h : j < s.size), j < k → mayB j (s[j].toNat : Int) = true
/-- A member's code. -/
def MemOk (s : ByteArray) : Prop := 4 ≤ s.size ∧ s.size ≤ 8 ∧ GoodTo s s.size
set_option maxRecDepth 100000 in
set_option maxHeartbeats 1000000 in
theorem lengths_calls (w : World) : Calls Vh 84 #[.int .i64 1] w fun e w' => e = .returned (.tuple #[.int .i64 4, .int .i64 8]) ∧ w = w' := by
  have hF : Vh.funcs[84]? = some Tryz.f84 := Vh.fn Tryz.func84 (by kernel_rfl)
  go_enter hF, Tryz.ntmps84
  go_wp2
  go_ret2
  exact ⟨rfl, rfl⟩
def ChkRes (s : ByteArray) (w : World) (e : Ending) (w' : World) : Prop := ∃ a b : Int, e = .returned (.tuple #[.int .i64 a, .int .i64 b]) ∧ (b = 0 ↔ MemOk s) ∧ ∃ n, w' = w.drewN n
theorem chkRes_no {s : ByteArray} {w : World} {a b : Int} (hb : b ≠ 0) (h : ¬ MemOk s) : ChkRes s w (.returned (.tuple #[.int .i64 a, .int .i64 b])) w := ⟨a, b, rfl, ⟨fun e => absurd e hb, fun e => absurd e h⟩, 0, by cases w; rfl⟩
set_option maxRecDepth 100000 in
set_option maxHeartbeats 2000000 in
theorem check05_calls (s : ByteArray) (w : World) (hs : s.size ≤ maxLen) : Calls Vh 63 #[.int .i64 1, .string s] w (ChkRes s w) := by
  unfold maxLen at hs
  have hF : Vh.funcs[63]? = some Tryz.f63 := Vh.fn Tryz.func63 (by kernel_rfl)
  have e1 := enterV Tryz.func84 (by kernel_rfl) (by kernel_rfl) rfl
  have e2 := enterV Tryz.func85 (by kernel_rfl) (by kernel_rfl) rfl
  go_enter hF, Tryz.ntmps63
  go_wp2_with (go_at_call 84; refine (lengths_calls _).mono ?_; rintro e w' ⟨rfl, rfl⟩)
  go_loop [8] (fun i => ∃ k : Nat, k ≤ s.size ∧ k ≤ 8 ∧ i = .int .i64 k ∧ GoodTo s k) (fun i => 8 - (intOf i).toNat)
  case atStart => exact ⟨0, Nat.zero_le _, by omega, rfl, fun j _ h => absurd h (Nat.not_lt_zero j)⟩
  case round =>
    obtain ⟨k, hk, hk8, rfl, hg⟩ := hrel
    by_cases hlt : k < s.size ∧ k < 8
    · obtain ⟨h1, h2⟩ := hlt
      cases hm : mayB k (s[k].toNat : Int)
      · have hno : ¬ MemOk s := fun h => by have := h.2.2 k h1 h1; rw [hm] at this; cases this
        have HN := Lib.hid hno
        have HG := Lib.hid hg
        have hc := fun W => may_calls k (s[k].toNat : Int) W
        rw [hm] at hc
        clear hno hg hm
        go_wp2_with (go_at_call 85; refine (hc _).mono ?_; rintro e w' ⟨rfl, rfl⟩)
        go_ret2
        exact chkRes_no (by decide) HN.out
      · have HG := Lib.hid hg
        have HM := Lib.hid hm
        have hc := fun W => may_calls k (s[k].toNat : Int) W
        rw [hm] at hc
        clear hg hm
        go_wp2_with (go_at_call 85; refine (hc _).mono ?_; rintro e w' ⟨rfl, rfl⟩)
        go_round
        case rel =>
          refine ⟨k + 1, by omega, by omega, by go_num, fun j hj hjk => ?_⟩
          by_cases e : j = k
          · subst e; exact HM.out
          · exact HG.out j hj (by omega)
        case measure => simp [intOf]; omega
    · by_cases h4 : s.size < 4
      · have HN := Lib.hid (show ¬ MemOk s from fun h => by have := h.1; omega)
        have HG := Lib.hid hg
        clear hg
        have hks : k = s.size := by omega
        subst hks
        go_wp2
        go_ret2
        exact chkRes_no (by decide) HN.out
      · by_cases h8 : 8 < s.size
        · have HN := Lib.hid (show ¬ MemOk s from fun h => by have := h.2.1; omega)
          have HG := Lib.hid hg
          clear hg
          have hks : k = 8 := by omega
          subst hks
          go_wp2
          go_ret2
          exact chkRes_no (by decide) HN.out
        · have hks : k = s.size := by omega
          subst hks
          have HM := Lib.hid (show MemOk s from ⟨by omega, by omega, hg⟩)
          clear hg
          go_wp2_with fail
          go_quiet (fail)
          go_wp2_with fail
          go_quiet (fail)
          go_wp2_with fail
          go_ret2
          exact ⟨0, 0, rfl, ⟨fun _ => HM.out, fun _ => rfl⟩, _, World.drewN_drewN ..⟩
open Classical in
noncomputable def memB (s : ByteArray) : Bool := decide (MemOk s)
def BoolRes (b : Bool) (w : World) (e : Ending) (w' : World) : Prop := e = .returned (.bool b) ∧ ∃ n, w' = w.drewN n
set_option maxRecDepth 100000 in
set_option maxHeartbeats 2000000 in
theorem member_calls (s : ByteArray) (w : World) (hs : s.size ≤ maxLen) : Calls Vh 34 #[.string s] w (BoolRes (memB s) w) := by
  have hF : Vh.funcs[34]? = some Tryz.f34 := Vh.fn Tryz.func34 (by kernel_rfl)
  have e1 := enterV Tryz.func63 (by kernel_rfl) (by kernel_rfl) rfl
  have h1 := check05_calls s w hs
  go_enter hF, Tryz.ntmps34
  by_cases hm : MemOk s
  · have hB : memB s = true := by simp [memB, hm]
    rw [hB]
    have HM := Lib.hid hm
    clear hm hB
    go_wp2_with (go_at_call 63; refine h1.mono ?_; rintro e w' ⟨a, b, rfl, hb, n, rfl⟩; obtain rfl := hb.2 HM.out; clear hb)
    go_ret
    exact ⟨rfl, n, rfl⟩
  · have hB : memB s = false := by simp [memB, hm]
    rw [hB]
    have HM := Lib.hid hm
    clear hm hB
    go_wp2_with (go_at_call 63; refine h1.mono ?_; rintro e w' ⟨a, b, rfl, hb, n, rfl⟩; have hb0 : b ≠ 0 := fun e => HM.out (hb.1 e); clear hb)
    go_ret
    exact ⟨ret_bool (by simp; assumption), n, rfl⟩
end Go.Proofs.YtmmjlngbiilagaaGreatDoor

/-
  ALONE: the reference's order of messages.
-/
namespace Go.Proofs.YtmmjlngbiilagaaGreatDoor
open Go Go.Conc Go.Shelf Go.RowKit Go.Lib

theorem drew2 (w : World) (a b : Nat) : ∃ q, (w.drewN a).drewN b = w.drewN q := ⟨a + b, World.drewN_drewN ..⟩
theorem drew3 (w : World) (a b c : Nat) : ∃ q, ((w.drewN a).drewN b).drewN c = w.drewN q := ⟨a + (b + c), by rw [World.drewN_drewN, World.drewN_drewN]⟩
theorem cb_drop : ∀ (k : Nat) (a b : List UInt8), k ≤ a.length → k ≤ b.length → (∀ j, j < k → a[j]? = b[j]?) → Lib.compareBytes a b = Lib.compareBytes (a.drop k) (b.drop k) := by
  intro k
  induction k with
  | zero => intros; rfl
  | succ k ih =>
    intro a b ha hb h
    match a, b, ha, hb with
    | x :: a, y :: b, ha, hb =>
      have h0 := h 0 (by omega)
      simp only [List.getElem?_cons_zero, Option.some.injEq] at h0
      subst h0
      simp only [Lib.compareBytes, UInt8.lt_irrefl, if_false, List.drop_succ_cons]
      exact ih a b (by simpa using ha) (by simpa using hb) fun j hj => by simpa using h (j + 1) (by omega)
def SameTo (a b : ByteArray) (k : Nat) : Prop := ∀ j, j < k → a.data.toList[j]? = b.data.toList[j]?
def bLt (a b : ByteArray) : Bool := decide (Lib.compareBytes a.data.toList b.data.toList < 0)
theorem ba_get (a : ByteArray) (k : Nat) (h : k < a.size) : a.data.toList[k]? = some a[k] := by
  have h' : k < a.data.size := h
  rw [Array.getElem?_toList, Array.getElem?_eq_getElem h']
  rfl
theorem sameTo_succ {a b : ByteArray} {k : Nat} (h : SameTo a b k) (ha : k < a.size) (hb : k < b.size) (e : a[k].toNat = b[k].toNat) : SameTo a b (k + 1) := fun j hj => by
  by_cases hjk : j = k
  · subst hjk
    rw [ba_get a j ha, ba_get b j hb, UInt8.toNat_inj.1 e]
  · exact h j (by omega)
theorem cb_head {x y : UInt8} {l k : List UInt8} (h : x.toNat ≠ y.toNat) : Lib.compareBytes (x :: l) (y :: k) < 0 ↔ x.toNat < y.toNat := by
  simp only [Lib.compareBytes, UInt8.lt_iff_toNat_lt]
  (repeat' split) <;> omega
theorem bLt_at {a b : ByteArray} {k : Nat} (h : SameTo a b k) (ha : k < a.size) (hb : k < b.size) (e : a[k].toNat ≠ b[k].toNat) : bLt a b = decide (a[k].toNat < b[k].toNat) := by
  have la : k < a.data.toList.length := by simpa using ha
  have lb : k < b.data.toList.length := by simpa using hb
  have ea : a.data.toList[k] = a[k] := by have := ba_get a k ha; rw [List.getElem?_eq_getElem la] at this; exact Option.some.inj this
  have eb : b.data.toList[k] = b[k] := by have := ba_get b k hb; rw [List.getElem?_eq_getElem lb] at this; exact Option.some.inj this
  unfold bLt
  rw [cb_drop k _ _ (by omega) (by omega) h, List.drop_eq_getElem_cons la, List.drop_eq_getElem_cons lb, ea, eb]
  exact decide_eq_decide.2 (cb_head e)
theorem bLt_end {a b : ByteArray} {k : Nat} (h : SameTo a b k) (ha : k ≤ a.size) (hb : k ≤ b.size) (e : ¬ (k < a.size ∧ k < b.size)) : bLt a b = decide (a.size < b.size) := by
  have la : a.data.toList.length = a.size := Array.length_toList
  have lb : b.data.toList.length = b.size := Array.length_toList
  unfold bLt
  rw [cb_drop k _ _ (by omega) (by omega) h]
  by_cases ka : k = a.size
  · rw [List.drop_eq_nil_of_le (by omega)]
    by_cases kb : k = b.size
    · rw [List.drop_eq_nil_of_le (by omega)]
      simp [Lib.compareBytes]; omega
    · rw [List.drop_eq_getElem_cons (show k < b.data.toList.length by omega)]
      simp [Lib.compareBytes]; omega
  · have kb : k = b.size := by omega
    rw [List.drop_eq_getElem_cons (show k < a.data.toList.length by omega), List.drop_eq_nil_of_le (show b.data.toList.length ≤ k by omega)]
    simp [Lib.compareBytes]; omega
set_option maxRecDepth 100000 in
set_option maxHeartbeats 2000000 in
theorem less_calls (a b : ByteArray) (w : World) (ha : a.size ≤ maxLen) (hb : b.size ≤ maxLen) : Calls Vh 65 #[.string a, .string b] w (BoolRes (bLt a b) w) := by
  unfold maxLen at ha hb
  have hF : Vh.funcs[65]? = some Tryz.f65 := Vh.fn Tryz.func65 (by kernel_rfl)
  go_enter hF, Tryz.ntmps65
  go_wp2
  go_loopw [5] (fun i u => ∃ k n : Nat, k ≤ a.size ∧ k ≤ b.size ∧ i = .int .i64 k ∧ SameTo a b k ∧ u = w.drewN n) (fun i _ => a.size - (intOf i).toNat)
  case atStart => exact ⟨0, 0, Nat.zero_le _, Nat.zero_le _, rfl, fun j h => absurd h (Nat.not_lt_zero j), rfl⟩
  case round =>
    obtain ⟨k, n, hka, hkb, rfl, hs, rfl⟩ := hrel
    by_cases hlt : k < a.size ∧ k < b.size
    · obtain ⟨h1, h2⟩ := hlt
      by_cases he : a[k].toNat = b[k].toNat
      · have HS := Lib.hid (sameTo_succ hs h1 h2 he)
        have hn : ((a[k].toNat : Int) != b[k].toNat) = false := by simp [he]
        clear hs he
        go_wp2_with fail
        go_quiet (fail)
        go_wp2_with fail
        go_roundw
        case rel => exact ⟨k + 1, _, by omega, by omega, by go_num, HS.out, rfl⟩
        case measure => simp [intOf]; omega
      · have HS := Lib.hid (bLt_at hs h1 h2 he)
        have hn : ((a[k].toNat : Int) != b[k].toNat) = true := by simp; omega
        clear hs he
        go_wp2_with fail
        go_quiet (fail)
        go_wp2_with fail
        go_quiet (fail)
        go_wp2_with fail
        go_ret
        exact ⟨ret_bool (by first | exact HS.out.symm | (rw [HS.out]; simp; done)), by first | exact ⟨_, rfl⟩ | exact drew2 .. | exact drew3 ..⟩
    · have HS := Lib.hid (bLt_end hs hka hkb hlt)
      clear hs
      go_wp2
      all_goals
        go_ret
        exact ⟨ret_bool (by first | exact HS.out.symm | (rw [HS.out]; simp; done)), by first | exact ⟨_, rfl⟩ | exact drew2 .. | exact drew3 ..⟩
theorem ba_inj {a b : ByteArray} (h : a.toList = b.toList) : a = b := by
  rw [ByteArray.toList_eq, ByteArray.toList_eq] at h
  obtain ⟨⟨a⟩⟩ := a
  obtain ⟨⟨b⟩⟩ := b
  simp only at h
  rw [h]
theorem ba_ne {a b : ByteArray} (h : a ≠ b) : (a.toList == b.toList) = false := by
  rw [beq_eq_false_iff_ne]
  exact fun e => h (ba_inj e)
theorem below_drewN {B : Nat} {a w : World} (h : Below B a w) (n : Nat) : Below B a (w.drewN n) := ⟨h.os, h.tape, h.output, h.size, h.block⟩
/-- The reference's 'Before'. -/
def befB (x y : M4) : Bool := if x.t ≠ y.t then decide (x.t < y.t) else if x.m ≠ y.m then bLt x.m y.m else decide (x.s < y.s)
set_option maxRecDepth 100000 in
set_option maxHeartbeats 2000000 in
theorem before_calls (x y : M4) (w : World) (hx : x.m.size ≤ maxLen) (hy : y.m.size ≤ maxLen) : Calls Vh 38 #[.agg #[.int .i64 x.t, .string x.m, .int .i64 x.s, .string x.p], .agg #[.int .i64 y.t, .string y.m, .int .i64 y.s, .string y.p]] w
    fun e w' => e = .returned (.bool (befB x y)) ∧ Below w.heap.size w w' := by
  have hF : Vh.funcs[38]? = some Tryz.f38 := Vh.fn Tryz.func38 (by kernel_rfl)
  have e1 := enterV Tryz.func65 (by kernel_rfl) (by kernel_rfl) rfl
  have h1 := fun W => less_calls x.m y.m W hx hy
  obtain ⟨xt, xm, xs, xp⟩ := x
  obtain ⟨yt, ym, ys, yp⟩ := y
  unfold befB
  dsimp only at *
  generalize bLt xm ym = c at *
  clear hx hy
  go_enter hF, Tryz.ntmps38
  by_cases ht : xt = yt
  · subst ht
    by_cases hm : xm = ym
    · subst hm
      go_wp2
      go_ret
      exact ⟨ret_bool (by simp), ((Below.refl _ _).alloc (Nat.le_refl _) _).alloc (by simp) _⟩
    · have hm' := ba_ne hm
      go_wp2_with (go_at_call 65; refine (h1 _).mono ?_; rintro e w' ⟨rfl, n, rfl⟩)
      go_ret
      exact ⟨ret_bool (by simp [hm]), below_drewN (((Below.refl _ _).alloc (Nat.le_refl _) _).alloc (by simp) _) _⟩
  · go_wp2
    go_ret
    exact ⟨ret_bool (by simp [ht]), ((Below.refl _ _).alloc (Nat.le_refl _) _).alloc (by simp) _⟩
end Go.Proofs.YtmmjlngbiilagaaGreatDoor

/-
  ALONE: a stream is copied.
-/
namespace Go.Proofs.YtmmjlngbiilagaaGreatDoor
open Go Go.Conc Go.Shelf Go.RowKit Go.Lib

theorem infoG : (Vh.info? 50).map (fun i => (i.zero, i.size, i.bytes)) = some (some (.agg #[.int .i64 0, .string ⟨#[]⟩, .int .i64 0, .string ⟨#[]⟩]), 4, 48) := by kernel_rfl
theorem undG : Vh.underlying 28 = some (.slice 50) := by kernel_rfl
theorem size_alloc (w : World) (o : Obj) : (w.alloc o).heap.size = w.heap.size + 1 := by simp
theorem Blk.alloc_ {w : World} {g : Nat} {t : TypeId} {cs : Array Value} (h : w.heap[g]? = some (.cells cs t (0, 0))) (o : Obj) : (w.alloc o).heap[g]? = some (.cells cs t (0, 0)) := (Below.heap_alloc w o g (heap_lt h)).trans h
/-- A slice that reads as messages, below block B. -/
def MRow (w : World) (B : Nat) (A : Option Addr) (ms : List M4) : Prop := ms = [] ∨ ∃ b o, A = some ⟨b, o, none⟩ ∧ b < B ∧ ∀ (j : Nat) (x : M4), ms[j]? = some x →
  w.cell? ⟨b, o + j * 4, none⟩ = some (.int .i64 x.t) ∧ w.cell? ⟨b, o + j * 4 + 1, none⟩ = some (.string x.m) ∧ w.cell? ⟨b, o + j * 4 + 2, none⟩ = some (.int .i64 x.s) ∧ w.cell? ⟨b, o + j * 4 + 3, none⟩ = some (.string x.p)
def cellsL (ms : List M4) : List Value := ms.flatMap M4.cells
theorem MRow.at_ {w : World} {B : Nat} {A : Option Addr} {ms : List M4} (h : MRow w B A ms) {k : Nat} {x : M4} (hk : ms[k]? = some x) : ∃ b o, A = some ⟨b, o, none⟩ ∧ b < B ∧
    w.cell? ⟨b, o + k * 4, none⟩ = some (.int .i64 x.t) ∧ w.cell? ⟨b, o + k * 4 + 1, none⟩ = some (.string x.m) ∧ w.cell? ⟨b, o + k * 4 + 2, none⟩ = some (.int .i64 x.s) ∧ w.cell? ⟨b, o + k * 4 + 3, none⟩ = some (.string x.p) := by
  rcases h with rfl | ⟨b, o, rfl, hb, hc⟩
  · cases hk
  · exact ⟨b, o, rfl, hb, hc k x hk⟩
theorem MRow.below {w w' : World} {B : Nat} {A : Option Addr} {ms : List M4} (h : MRow w B A ms) (hb : Below B w w') : MRow w' B A ms := by
  rcases h with h | ⟨b, o, rfl, hlt, hc⟩
  · exact .inl h
  · refine .inr ⟨b, o, rfl, hlt, fun j x hx => ?_⟩
    obtain ⟨h0, h1, h2, h3⟩ := hc j x hx
    exact ⟨(hb.cell (p := ⟨b, _, none⟩) hlt).trans h0, (hb.cell (p := ⟨b, _, none⟩) hlt).trans h1, (hb.cell (p := ⟨b, _, none⟩) hlt).trans h2, (hb.cell (p := ⟨b, _, none⟩) hlt).trans h3⟩
/-- Block g holds these cells. -/
def Blk (w : World) (g : Nat) (t : TypeId) (cs : Array Value) : Prop := w.heap[g]? = some (.cells cs t (0, 0))
theorem Blk.cell {w : World} {g : Nat} {t : TypeId} {cs : Array Value} (h : Blk w g t cs) (i : Nat) : w.cell? ⟨g, i, none⟩ = cs[i]? := cell_of_row w g i cs t (0, 0) h
theorem Blk.frz {w : World} {g : Nat} {t : TypeId} {cs : Array Value} (h : Blk w g t cs) (i : Nat) : w.frozen? ⟨g, i, none⟩ = false := by
  unfold Blk at h
  simp [World.frozen?, h]
/-- One message appended to a row of the call's own: at a step of a region that draws its order. -/
theorem step_app4 {ops : Array Oper} {o : Oper} {a : Act} {w : World} {K : Act → World → Prop} {Q : Exit → Act → World → Prop} {E : Prop} (hgd : o.guard = none) (s x : Operand)
    (ho : o.op = .call { callee := .builtin .append, args := #[s, x], argTypes := #[28, 28] }) (base : Nat) (v : Value) (n : Nat) (xs : List Value) (hs : a.eval s = v) (hown : w.ownsRow base 50 4 v n xs)
    (g c : Nat) (y : M4) (hx : a.eval x = .slice (some ⟨g, 0, none⟩) 1 c) (hnew : w.heap[g]? = some (.cells y.cells.toArray 50 (0, 0))) (hn : n ≤ 100000) (hbase : base ≤ w.heap.size) (H : Nat) (hH : w.heap.size = H)
    (h : ∀ g' cap w', w'.ownsRow base 50 4 (.slice (some ⟨g', 0, none⟩) (n + 1) cap) (n + 1) (xs ++ y.cells) → w.grownBy w' v.ownBlock → (v.ownBlock = some g' ∨ g' = H) → g' < w'.heap.size → K (a.put o.dst (.slice (some ⟨g', 0, none⟩) (n + 1) cap)) w') :
    if Region.wanted o (yielded ops a.tmps) = true then Oper.wp Vh o a w K Q else E := by
  obtain ⟨i0, hi0, hz0, hz1, hz2⟩ := info_parts infoG
  exact step_append_lies w hgd s x 28 ho base 50 i0 _ 4 48 undG hi0 hz0 hz1 hz2 rfl (by omega) v n xs hs hown ⟨g, 0, none⟩ 1 c y.cells hx rfl (fun j u hu => World.news_of_block hnew j u (by simpa using hu))
    (fun u hu => by simp only [M4.cells, List.mem_cons, List.not_mem_nil, or_false] at hu; rcases hu with rfl | rfl | rfl | rfl <;> rfl) (by omega) (by simp only [maxLen]; omega) (by omega) hbase H hH h
structure StrJ (w : World) (mem : ByteArray) (A : Option Addr) (n cap : Nat) (ms : List M4) (k : Nat) (u : World) : Prop where
  below : Below w.heap.size w u
  b1 : Blk u w.heap.size 58 #[.string mem, .slice A n cap]
  b2 : Blk u (w.heap.size + 1) 60 #[.string ⟨#[]⟩, .slice none 0 0]
  v : ∃ v, Blk u (w.heap.size + 2) 60 #[.string mem, v] ∧ u.ownsRow (w.heap.size + 3) 50 4 v k (cellsL (ms.take k))
theorem cellsL_succ {ms : List M4} {k : Nat} {x : M4} (h : ms[k]? = some x) : cellsL (ms.take (k + 1)) = cellsL (ms.take k) ++ x.cells := by
  obtain ⟨hl, e⟩ := List.getElem?_eq_some_iff.1 h
  unfold cellsL
  rw [List.take_succ_eq_append_getElem hl, List.flatMap_append, e]
  simp
theorem own_setCell {w : World} {base : Nat} {e : TypeId} {size : Nat} {v : Value} {n : Nat} {xs : List Value} (h : w.ownsRow base e size v n xs) {p : Addr} (hp : p.block < base) (u : Value) : (w.setCell p u).ownsRow base e size v n xs := by
  refine ⟨h.1, h.2.imp id fun ⟨g, cap, cur, h1, h2, h3, h4⟩ => ⟨g, cap, cur, h1, h2, ?_, h4⟩⟩
  rw [← h3]
  exact Below.heap_setCell w p u g (by omega)
theorem own_base {w : World} {base base' : Nat} {e : TypeId} {size : Nat} {v : Value} {n : Nat} {xs : List Value} (h : w.ownsRow base e size v n xs) (hb : base' ≤ base) : w.ownsRow base' e size v n xs :=
  ⟨h.1, h.2.imp id fun ⟨g, cap, cur, h1, h2, h3⟩ => ⟨g, cap, cur, h1, Nat.le_trans hb h2, h3⟩⟩
theorem StrJ.next {w : World} {mem : ByteArray} {A : Option Addr} {n cap : Nat} {ms : List M4} {k : Nat} {wr w' : World} {v : Value} {x : M4} {g cap' : Nat} (hb : Below w.heap.size w wr) (h1 : Blk wr w.heap.size 58 #[.string mem, .slice A n cap])
    (h2 : Blk wr (w.heap.size + 1) 60 #[.string ⟨#[]⟩, .slice none 0 0]) (h3 : Blk wr (w.heap.size + 2) 60 #[.string mem, v]) (hv : wr.ownsRow (w.heap.size + 3) 50 4 v k (cellsL (ms.take k))) (hx : ms[k]? = some x)
    (hown : w'.ownsRow (w.heap.size + 3) 50 4 (.slice (some ⟨g, 0, none⟩) (k + 1) cap') (k + 1) (cellsL (ms.take k) ++ x.cells)) (hg : (wr.drew.alloc (.cells #[.int .i64 x.t, .string x.m, .int .i64 x.s, .string x.p] 50)).grownBy w' v.ownBlock) :
    StrJ w mem A n cap ms (k + 1) (w'.setCell ⟨w.heap.size + 1 + 1, 1, none⟩ (.slice (some ⟨g, 0, none⟩) (k + 1) cap')) := by
  have hown3 : ∀ b, b < w.heap.size + 3 → some b ≠ v.ownBlock := fun b hb3 e => by
    rcases hv.2 with ⟨rfl, _⟩ | ⟨g, _, _, rfl, hg3, _⟩
    · cases e
    · simp only [Value.ownBlock, Option.some.injEq] at e; omega
  have h3lt : w.heap.size + 2 < wr.heap.size := heap_lt h3
  have keep : ∀ b, b < w.heap.size + 3 → w'.heap[b]? = wr.heap[b]? := fun b hb3 => by
    rw [hg.block b (by simp; omega) (hown3 b hb3)]
    exact Below.heap_alloc wr.drew _ b (by show b < wr.heap.size; omega)
  have hbel : Below w.heap.size w w' := (hb.drew.alloc (by show w.heap.size ≤ wr.heap.size; omega) _).grown hg (by simp; omega) fun q e => by
    have := hown3 q
    rcases Nat.lt_or_ge q (w.heap.size + 3) with hq | hq
    · exact absurd e.symm (this hq)
    · omega
  refine ⟨hbel.setCell (by simp; omega) _, ?_, ?_, .slice (some ⟨g, 0, none⟩) (k + 1) cap', ?_, ?_⟩
  · unfold Blk
    rw [Below.heap_setCell w' _ _ _ (by simp; omega), keep _ (by omega)]
    exact h1
  · unfold Blk
    rw [Below.heap_setCell w' _ _ _ (by simp), keep _ (by omega)]
    exact h2
  · have hk : w'.heap[w.heap.size + 2]? = some (.cells #[.string mem, v] 60 (0, 0)) := (keep _ (by omega)).trans h3
    unfold Blk
    simp only [World.setCell, Array.getElem?_modify, if_true, hk]
    rfl
  · rw [cellsL_succ hx]
    exact own_setCell hown (by simp) _
set_option maxRecDepth 100000 in
set_option maxHeartbeats 2000000 in
theorem stream_calls (mem : ByteArray) (A : Option Addr) (n cap : Nat) (ms : List M4) (w : World) (hm : MRow w w.heap.size A ms) (hn : ms.length = n) (hn3 : n ≤ 300) : Calls Vh 15 #[.agg #[.string mem, .slice A n cap]] w
    fun e w' => ∃ u, e = .returned (.agg #[.string mem, u]) ∧ w'.ownsRow w.heap.size 50 4 u n (cellsL ms) ∧ Below w.heap.size w w' := by
  have hF : Vh.funcs[15]? = some Tryz.f15 := Vh.fn Tryz.func15 (by kernel_rfl)
  have HM := Lib.hid hm
  have HN := Lib.hid hn
  clear hm hn
  go_enter hF, Tryz.ntmps15
  go_wp2
  go_loopw [4] (fun i u => ∃ k : Nat, k ≤ n ∧ i = .int .i64 k ∧ StrJ w mem A n cap ms k u) (fun i _ => n - (intOf i).toNat)
  case atStart =>
    refine ⟨0, Nat.zero_le _, rfl, ⟨(((Below.refl _ _).alloc (Nat.le_refl _) _).alloc (by simp) _).alloc (by simp; omega) _, ?_, ?_, _, ?_, ⟨by simp [cellsL], .inl ⟨rfl, rfl⟩⟩⟩⟩
    · exact Blk.alloc_ (Blk.alloc_ (heap_alloc_new w _) _) _
    · have := heap_alloc_new (w.alloc (Obj.cells #[Value.string mem, Value.slice A n cap] 58)) (Obj.cells #[Value.string ⟨#[]⟩, Value.slice none 0 0] 60)
      simp only [size_alloc] at this
      exact Blk.alloc_ this _
    · have := heap_alloc_new ((w.alloc (Obj.cells #[Value.string mem, Value.slice A n cap] 58)).alloc (Obj.cells #[Value.string ⟨#[]⟩, Value.slice none 0 0] 60)) (Obj.cells #[Value.string mem, Value.slice none 0 0] 60)
      simp only [size_alloc] at this
      exact this
  case round =>
    obtain ⟨k, hk, rfl, hJ⟩ := hrel
    obtain ⟨hb, h1, h2, v, h3, hv⟩ := hJ
    have c10 := h1.cell 0
    have c11 := h1.cell 1
    have c30 := h3.cell 0
    have c31 := h3.cell 1
    have f31 := h3.frz 1
    simp only [List.getElem?_toArray, List.getElem?_cons_zero, List.getElem?_cons_succ] at c10 c11 c30 c31
    by_cases hlt : k < n
    · obtain ⟨x, hx⟩ : ∃ x, ms[k]? = some x := ⟨_, List.getElem?_eq_getElem (by have := HN.out; omega)⟩
      obtain ⟨b, o, rfl, hbB, m0, m1, m2, m3⟩ := (HM.out.below hb).at_ hx
      have HV := Lib.hid hv
      have HB := Lib.hid hb
      have H1 := Lib.hid h1
      have H2 := Lib.hid h2
      have H3 := Lib.hid h3
      have HX := Lib.hid hx
      clear hv hb h1 h2 h3 hx
      obtain ⟨i0, hi0, hz0, hz1, hz2⟩ := info_parts infoG
      have hne : v.ownBlock ≠ some (w.heap.size + 1 + 1) := fun e => by
        rcases HV.out.2 with ⟨rfl, _⟩ | ⟨g, _, _, rfl, hg, _⟩
        · cases e
        · simp only [Value.ownBlock, Option.some.injEq] at e; omega
      have H3lt : w.heap.size + 1 + 1 < wr.heap.size := heap_lt H3.out
      go_wp2_with fail
      go_region_law (first
        | (refine step_app4 (by rfl) (.tmp 16) (.tmp 22) (by rfl) (w.heap.size + 3) v k (cellsL (ms.take k)) (by rfl) (HV.out.drew.alloc _) wr.heap.size 1 x (by rfl) (heap_alloc_new _ _) (by omega) (by simp; omega) _ (by rfl) ?_
           intro g cap' w' hown hg hat hlt'
           have c31' : w'.cell? ⟨w.heap.size + 1 + 1, 1, none⟩ = some v := (hg.cell_far ⟨w.heap.size + 1 + 1, 1, none⟩ (by simp; omega) (fun e => hne e.symm)).trans ((World.cell?_alloc_lt _ _ _ H3lt).trans c31)
           have f31' : w'.frozen? ⟨w.heap.size + 1 + 1, 1, none⟩ = false := (hg.frozen_far ⟨w.heap.size + 1 + 1, 1, none⟩ (by simp; omega) (fun e => hne e.symm)).trans ((World.frozen?_alloc_past _ _ _ H3lt).trans f31)))
      all_goals
        go_wp2_with fail
        go_roundw
        case rel => exact ⟨k + 1, by omega, by go_num, StrJ.next HB.out H1.out H2.out H3.out HV.out HX.out hown hg⟩
        case measure => simp [intOf]; omega
    · have hkn : k = n := by omega
      subst hkn
      have f20 := h2.frz 0
      have f21 := h2.frz 1
      have c20 := h2.cell 0
      have c21 := h2.cell 1
      simp only [List.getElem?_toArray, List.getElem?_cons_zero, List.getElem?_cons_succ] at c20 c21
      obtain ⟨A', n', c', rfl⟩ : ∃ A' n' c', v = .slice A' n' c' := by
        rcases hv.2 with ⟨rfl, _⟩ | ⟨g, c, _, rfl, _⟩ <;> exact ⟨_, _, _, rfl⟩
      have hfin : Blk ((wr.setCell ⟨w.heap.size + 1, 0, none⟩ (.string mem)).setCell ⟨w.heap.size + 1, 1, none⟩ (.slice A' n' c')) (w.heap.size + 1) 60 #[.string mem, .slice A' n' c'] := by
        unfold Blk at h2 ⊢
        simp [World.setCell, Array.getElem?_modify, h2]
      have e0 := Lib.hid (hfin.cell 0)
      have e1 := Lib.hid (hfin.cell 1)
      have HV := Lib.hid hv
      have HB := Lib.hid hb
      clear hv hb h1 h2 h3 hfin
      go_wp2
      have e0 := e0.out
      have e1 := e1.out
      simp only [List.getElem?_toArray, List.getElem?_cons_zero, List.getElem?_cons_succ] at e0 e1
      refine bodyPost_ret (v := .agg #[.string mem, .slice A' n' c']) (by simp [results, Tryz.results15, go_sem, e0, e1]) rfl ⟨_, rfl, ?_, ?_⟩
      · clear e0 e1
        have ht : ms.take k = ms := List.take_of_length_le (by rw [HN.out]; exact Nat.le_refl _)
        have := own_setCell (own_setCell HV.out (p := ⟨w.heap.size + 1, 0, none⟩) (by show w.heap.size + 1 < w.heap.size + 3; omega) (.string mem)) (p := ⟨w.heap.size + 1, 1, none⟩) (by show w.heap.size + 1 < w.heap.size + 3; omega) (.slice A' n' c')
        rw [ht] at this
        exact own_base this (by simp)
      · exact (HB.out.setCell (by simp) _).setCell (by simp) _
end Go.Proofs.YtmmjlngbiilagaaGreatDoor

/-
  ALONE: own: the streams are copied, or there are too many.
-/
namespace Go.Proofs.YtmmjlngbiilagaaGreatDoor
open Go Go.Conc Go.Shelf Go.RowKit Go.Lib

/-- A stream: its member, its messages. -/
structure Strm where
  mem : ByteArray
  ms : List M4
/-- A slice that reads as streams, below block B. -/
def SRow (w : World) (B : Nat) (A : Option Addr) (L : List Strm) : Prop := L = [] ∨ ∃ b o, A = some ⟨b, o, none⟩ ∧ b < B ∧ ∀ (j : Nat) (x : Strm), L[j]? = some x →
  w.cell? ⟨b, o + j * 2, none⟩ = some (.string x.mem) ∧ ∃ A' cap, w.cell? ⟨b, o + j * 2 + 1, none⟩ = some (.slice A' x.ms.length cap) ∧ MRow w B A' x.ms
theorem SRow.at_ {w : World} {B : Nat} {A : Option Addr} {L : List Strm} (h : SRow w B A L) {k : Nat} {x : Strm} (hk : L[k]? = some x) : ∃ b o, A = some ⟨b, o, none⟩ ∧ b < B ∧
    w.cell? ⟨b, o + k * 2, none⟩ = some (.string x.mem) ∧ ∃ A' cap, w.cell? ⟨b, o + k * 2 + 1, none⟩ = some (.slice A' x.ms.length cap) ∧ MRow w B A' x.ms := by
  rcases h with rfl | ⟨b, o, rfl, hb, hc⟩
  · cases hk
  · exact ⟨b, o, rfl, hb, hc k x hk⟩
theorem SRow.below {w w' : World} {B : Nat} {A : Option Addr} {L : List Strm} (h : SRow w B A L) (hb : Below B w w') : SRow w' B A L := by
  rcases h with h | ⟨b, o, rfl, hlt, hc⟩
  · exact .inl h
  · refine .inr ⟨b, o, rfl, hlt, fun j x hx => ?_⟩
    obtain ⟨h0, A', cap, h1, h2⟩ := hc j x hx
    exact ⟨(hb.cell (p := ⟨b, _, none⟩) hlt).trans h0, A', cap, (hb.cell (p := ⟨b, _, none⟩) hlt).trans h1, h2.below hb⟩
theorem MRow.more {w : World} {B B' : Nat} {A : Option Addr} {ms : List M4} (h : MRow w B A ms) (hB : B ≤ B') : MRow w B' A ms := h.imp id fun ⟨b, o, h1, h2, h3⟩ => ⟨b, o, h1, by omega, h3⟩
def tot (L : List Strm) : Nat := (L.map fun x => x.ms.length).sum
theorem tot_succ {L : List Strm} {k : Nat} {x : Strm} (h : L[k]? = some x) : tot (L.take (k + 1)) = tot (L.take k) + x.ms.length := by
  obtain ⟨hl, e⟩ := List.getElem?_eq_some_iff.1 h
  unfold tot
  rw [List.take_succ_eq_append_getElem hl, List.map_append, List.sum_append, e]
  simp
theorem tot_take_le (L : List Strm) (k : Nat) : tot (L.take k) ≤ tot L := by
  have : tot L = tot (L.take k) + tot (L.drop k) := by
    unfold tot
    rw [← List.sum_append, ← List.map_append, List.take_append_drop]
  omega
def Fits (L : List Strm) : Prop := L.length ≤ 40 ∧ tot L ≤ 300
/-- The copies: a row of streams, each with a row of its own. -/
def OwnS (w : World) (base : Nat) (v : Value) (L : List Strm) : Prop := ∃ us : List Value, us.length = L.length ∧ w.ownsRow base 60 2 v L.length ((L.zip us).flatMap fun p => [.string p.1.mem, p.2]) ∧
  ∀ (j : Nat) (u : Value) (x : Strm), us[j]? = some u → L[j]? = some x → w.ownsRow base 50 4 u x.ms.length (cellsL x.ms)
theorem own_keep {w w' : World} {base : Nat} {e : TypeId} {size : Nat} {v : Value} {n : Nat} {xs : List Value} (h : w.ownsRow base e size v n xs) (hk : ∀ g, v.ownBlock = some g → w'.heap[g]? = w.heap[g]?) : w'.ownsRow base e size v n xs :=
  ⟨h.1, h.2.imp id fun ⟨g, cap, cur, h1, h2, h3, h4⟩ => ⟨g, cap, cur, h1, h2, (hk g (by rw [h1]; rfl)).trans h3, h4⟩⟩
theorem own_lt {w : World} {base : Nat} {e : TypeId} {size : Nat} {v : Value} {n : Nat} {xs : List Value} (h : w.ownsRow base e size v n xs) {g : Nat} (hg : v.ownBlock = some g) : g < w.heap.size := by
  rcases h.2 with ⟨rfl, _⟩ | ⟨g', _, _, rfl, _, hh, _⟩
  · cases hg
  · simp only [Value.ownBlock, Option.some.injEq] at hg
    exact hg ▸ heap_lt hh
theorem own_below {w w' : World} {B base : Nat} {e : TypeId} {size : Nat} {v : Value} {n : Nat} {xs : List Value} (h : w.ownsRow base e size v n xs) (hb : Below B w w') (hB : w.heap.size ≤ B) : w'.ownsRow base e size v n xs :=
  own_keep h fun g hg => hb.block g (by have := own_lt h hg; omega)
theorem OwnS.below {w w' : World} {B base : Nat} {v : Value} {L : List Strm} (h : OwnS w base v L) (hb : Below B w w') (hB : w.heap.size ≤ B) : OwnS w' base v L := by
  obtain ⟨us, h1, h2, h3⟩ := h
  exact ⟨us, h1, own_below h2 hb hB, fun j u x hu hx => own_below (h3 j u x hu hx) hb hB⟩
theorem infoS : (Vh.info? 60).map (fun i => (i.zero, i.size, i.bytes)) = some (some (.agg #[.string ⟨#[]⟩, .slice none 0 0]), 2, 40) := by kernel_rfl
theorem undS : Vh.underlying 23 = some (.slice 60) := by kernel_rfl
theorem flat_succ {L : List Strm} {us : List Value} {k : Nat} {x : Strm} {u : Value} (hk : us.length = k) (hx : L[k]? = some x) : ((L.take (k + 1)).zip (us ++ [u])).flatMap (fun p => [Value.string p.1.mem, p.2]) = ((L.take k).zip us).flatMap (fun p => [Value.string p.1.mem, p.2]) ++ [.string x.mem, u] := by
  obtain ⟨hl, e⟩ := List.getElem?_eq_some_iff.1 hx
  rw [List.take_succ_eq_append_getElem hl, List.zip_append (by rw [List.length_take]; omega), List.flatMap_append, e]
  simp
/-- Rows of different kinds lie apart. -/
theorem own_apart {w : World} {base base' : Nat} {e e' : TypeId} {size size' : Nat} {v v' : Value} {n n' : Nat} {xs xs' : List Value} (h : w.ownsRow base e size v n xs) (h' : w.ownsRow base' e' size' v' n' xs') (hne : e ≠ e') : v.ownBlock = none ∨ v.ownBlock ≠ v'.ownBlock := by
  rcases h.2 with ⟨rfl, _⟩ | ⟨g, _, _, rfl, _, hh, _⟩
  · exact .inl rfl
  · right
    rcases h'.2 with ⟨rfl, _⟩ | ⟨g', _, _, rfl, _, hh', _⟩
    · simp [Value.ownBlock]
    · simp only [Value.ownBlock, ne_eq, Option.some.injEq]
      rintro rfl
      rw [hh] at hh'
      cases hh'
      exact hne rfl
theorem OwnS.next {u w' : World} {base : Nat} {v : Value} {L : List Strm} {k : Nat} {x : Strm} {s : Value} {cap : Nat} {g : Nat} {us : List Value} (h1 : us.length = k) (h2 : u.ownsRow base 60 2 v k (((L.take k).zip us).flatMap fun p => [.string p.1.mem, p.2]))
    (h3 : ∀ (j : Nat) (t : Value) (y : Strm), us[j]? = some t → (L.take k)[j]? = some y → u.ownsRow base 50 4 t y.ms.length (cellsL y.ms)) (hx : L[k]? = some x) (hs : u.ownsRow base 50 4 s x.ms.length (cellsL x.ms))
    (hown : w'.ownsRow base 60 2 (.slice (some ⟨g, 0, none⟩) (k + 1) cap) (k + 1) (((L.take k).zip us).flatMap (fun p => [Value.string p.1.mem, p.2]) ++ [.string x.mem, s])) (hg : (u.alloc (.cells #[.string x.mem, s] 60)).grownBy w' v.ownBlock) : OwnS w' base (.slice (some ⟨g, 0, none⟩) (k + 1) cap) (L.take (k + 1)) := by
  obtain ⟨hl, e⟩ := List.getElem?_eq_some_iff.1 hx
  have hlen' : (L.take (k + 1)).length = k + 1 := by rw [List.length_take]; omega
  refine ⟨us ++ [s], by rw [List.length_append, h1, hlen']; rfl, ?_, fun j t y ht hy => ?_⟩
  · rw [hlen', flat_succ h1 hx]
    exact hown
  · have key : ∀ {t : Value} {n : Nat} {xs : List Value}, u.ownsRow base 50 4 t n xs → w'.ownsRow base 50 4 t n xs := fun hr =>
      World.ownsRow.kept (hr.alloc _) hg (own_apart hr h2 (by decide))
    by_cases hj : j < k
    · rw [List.getElem?_append_left (by rw [h1]; exact hj)] at ht
      rw [List.getElem?_take] at hy
      split at hy
      · exact key (h3 j t y ht (by rw [List.getElem?_take, if_pos hj]; exact hy))
      · cases hy
    · rw [List.getElem?_append_right (by rw [h1]; omega), h1] at ht
      have hjk : j = k := by
        rcases Nat.lt_or_ge (j - k) 1 with h | h
        · omega
        · rw [List.getElem?_eq_none (by simpa using h)] at ht; cases ht
      subst hjk
      simp only [Nat.sub_self, List.getElem?_cons_zero, Option.some.injEq] at ht
      subst ht
      rw [List.getElem?_take, if_pos (by omega), hx] at hy
      cases hy
      exact key hs
end Go.Proofs.YtmmjlngbiilagaaGreatDoor
