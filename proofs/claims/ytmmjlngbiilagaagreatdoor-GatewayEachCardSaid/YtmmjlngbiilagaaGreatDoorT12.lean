/-
  TAME OPERATIONS, kind by kind.
-/
import Derived.Test.YtmmjlngbiilagaaGreatDoorT11
import Derived.KernelRfl
import Derived.Test.YtmmjlngbiilagaaGreatDoorChecked
import Derived.Shelf.SlSortCmp.WholeK
import Derived.Shelf.SlGeneric
import Derived.Ground.SlsfProg

namespace Go.Proofs.YtmmjlngbiilagaaGreatDoor
open Go Go.Conc

/-- An operand that is good. -/
def OpdOk (K : Cfg) : Operand → Prop
  | .const c => PFv K c
  | .global g => PFb K g
  | _ => True
theorem EvOk.val {K : Cfg} {ev : Operand → Value} (h : EvOk K ev) : ∀ {x : Operand}, OpdOk K x → PFv K (ev x)
  | .const c, hx => by rw [h.const]; exact hx
  | .tmp t, _ => h.tmp t
  | .global g, hx => by rw [h.global]; exact pf_ptr hx
  | .func f, _ => by rw [h.func]; exact .inr (.func (.func f) (by simp) (by simp))
/-- What calls ask of the two programs. -/
def CallsOk (K : Cfg) : Prop := ∀ (f : FuncId) (args : Array Value), (∀ x ∈ args, PFv K x) → Tame K (NextOk K) (callFunc f args)

section
variable {K : Cfg} (L : Low K) {o : Oper}
include L
omit L in
theorem t_ite {α : Type} {A : α → Prop} {c : Prop} [Decidable c] {s1 s2 : Sem α} (h1 : Tame K A s1) (h2 : Tame K A s2) : Tame K A (if c then s1 else s2) := by split <;> assumption
theorem nv {s : Sem Value} (h : Tame K (PFv K) s) : Tame K (NextOk K) (do pure (.value (← s))) := have _ := L; t_bind h fun _ hv => hv
theorem nu {s : Sem Unit} (h : Tame K (fun _ => True) s) : Tame K (NextOk K) (do s; pure .skip) := have _ := L; t_bind h fun _ _ => trivial
theorem ok_move {x : Operand} (h : o.op = .move x) (hx : OpdOk K x) : OpOk K o := have _ := L; fun ev he => by unfold execOp; simp only [h]; exact he.val hx
theorem ok_assign {x : Operand} (h : o.op = .assign x) (hx : OpdOk K x) : OpOk K o := have _ := L; fun ev he => by unfold execOp; simp only [h]; exact he.val hx
theorem ok_pick {c a b : Operand} (h : o.op = .pick c a b) (ha : OpdOk K a) (hb : OpdOk K b) : OpOk K o := fun ev he => by
  unfold execOp; simp only [h]
  refine t_bind (t_asBool L _) fun t _ => ?_
  show PFv K (if t then ev a else ev b)
  split
  · exact he.val ha
  · exact he.val hb
theorem ok_alloc {e : TypeId} (h : o.op = .alloc e) : OpOk K o := fun ev he => by
  unfold execOp; simp only [h]
  exact nv L (t_bind (t_zero L e) fun z hz => t_bind (t_newVar L e hz) fun a ha => pf_ptr ha)
theorem ok_box {e : TypeId} {x : Operand} (h : o.op = .box e x) (hx : OpdOk K x) : OpOk K o := fun ev he => by
  unfold execOp; simp only [h]
  exact nv L (t_bind (t_newVar L e (he.val hx)) fun a ha => pf_ptr ha)
theorem ok_load {t : TypeId} {a : Operand} (h : o.op = .load t a) (ha : OpdOk K a) : OpOk K o := fun ev he => by
  unfold execOp; simp only [h]
  exact nv L (t_bind (t_sureAddr L (he.val ha)) fun a _ => t_loadVar L t a)
theorem ok_store {t : TypeId} {a x : Operand} (h : o.op = .store t a x) (ha : OpdOk K a) (hx : OpdOk K x) : OpOk K o := fun ev he => by
  unfold execOp; simp only [h]
  exact nu L (t_bind (t_sureAddr L (he.val ha)) fun a _ => t_storeVar L t a (he.val hx))
theorem t_followBlind : ∀ (l : List FieldStep) (t : TypeId) {x : Option Value}, (∀ v, x = some v → PFv K v) → Tame K (fun r : Except (Option Bool) (TypeId × Option Value) => ∀ t y, r = .ok (t, some y) → PFv K y) (followBlind l t x) := by
  intro l
  induction l with
  | nil => exact fun t x hx => t_pure fun t y e => by cases e; exact hx _ rfl
  | cons s rest ih =>
    intro t x hx
    unfold followBlind
    refine t_bind (t_und L _) fun d _ => ?_
    split
    · split
      · split
        · exact t_pure fun t y e => by cases e
        · exact ih _ fun v e => by cases e
        · exact t_stuck _
        · exact t_pure fun t y e => by cases e
        · exact t_bind (t_part L _ _ (hx _ rfl).aggs) fun y hy => ih _ fun v e => by cases e; exact hy
        · exact t_stuck _
        · exact ih _ fun v e => by cases e
      · exact t_stuck _
    · exact t_stuck _
theorem t_nilAhead (name : String) : ∀ (n : Nat) (t : TypeId) {v : Value}, PFv K v → Tame K (fun _ => True) (nilAhead n t v name) := by
  intro n
  induction n with
  | zero => exact fun t v hv => trivial
  | succ n ih =>
    intro t v hv
    unfold nilAhead
    refine t_bind (t_typeInfo L _) fun i _ => ?_
    split
    · refine t_bind (t_followBlind L _ t fun y e => by cases e; exact hv) fun r hr => ?_
      split
      · trivial
      · split
        · exact ih _ ((hr _ _ rfl).imp id fun h => by cases h with | iface _ h => exact h)
        · trivial
        · exact t_stuck _
        · trivial
        · trivial
        · refine t_bind (t_und L _) fun d _ => ?_
          split <;> trivial
    · exact t_stuck _
theorem ok_nilCheck {x : Operand} (h : o.op = .nilCheck x) (hx : OpdOk K x) : OpOk K o := fun ev he => by
  unfold execOp; simp only [h]
  have hv := he.val hx
  generalize ev x = v at hv
  split
  · exact t_rpNil L
  · exact t_rpNil L
  · exact t_rpNil L
  · rename_i name first captured
    split
    · exact t_rpNil L
    · rename_i t w hf
      have hw : PFv K w := hv.imp id fun h => by
        cases h with
        | func _ h1 _ =>
          have h2 := h1 _ (Array.mem_iff_getElem?.2 ⟨0, hf⟩)
          cases h2 with
          | iface _ h => exact h
      refine t_prog (by simp only [L.tables]) ?_
      refine t_bind (t_nilAhead L name _ t hw) fun r _ => ?_
      split
      · exact t_bind (A := fun _ => True) trivial fun _ _ => hv
      · exact hv
    · exact hv
  · exact hv
theorem eqGuardType_eq : ∀ (d : Nat) (t : TypeId), K.V.eqGuardType d t = K.P.eqGuardType d t := by
  intro d
  induction d with
  | zero => intro t; rfl
  | succ d ih => intro t; unfold Program.eqGuardType; simp only [und_eq L, ih]
theorem t_eqGuardInt {t : TypeId} (ht : ∃ k, K.P.underlying t = some (.int k)) (x y : Value) (d : Nat) : Tame K (fun _ => True) (Op.eqGuardIn d t x y) := by
  obtain ⟨k, ht⟩ := ht
  cases d with
  | zero => exact t_limit _
  | succ d =>
    unfold Op.eqGuardIn
    refine t_bind (t_und L t) fun u hu => ?_
    rw [ht] at hu
    cases hu
    split
    · rename_i h1; cases h1
    · rename_i h1; cases h1
    · rename_i h1; cases h1
    · exact trivial
theorem t_eqGuard (op : BinOp) {t : TypeId} {a b : Value} (hgd : ∀ d, Tame K (fun _ => True) (Op.eqGuardIn d t a b)) (x y : Operand) : Tame K (fun _ => True) (eqGuard op t x y a b) := by
  have tail : ∀ s : String, Tame K (fun _ => True) (do if ← Op.eqGuardIn Op.maxDepth t a b then unsupported (.noEntry s)) := fun s => by
    refine t_bind (hgd _) fun r _ => ?_
    split
    · exact t_noEntry _
    · exact trivial
  have mid : Tame K (fun _ => True) (do
      match a, b with
      | .nilIface, .nilIface =>
        if (x matches .const _) || (y matches .const _) then return
        if ← Op.eqGuardIn Op.maxDepth t a b then unsupported (.noEntry "binop/eql: two nil values of an interface type with methods, neither of them the literal nil")
      | .agg _, .agg _ =>
        if !(← program).eqGuardType (← program).depth t then return
        if ← Op.eqGuardIn Op.maxDepth t a b then unsupported (.noEntry "binop/eql: two nil values of an interface type with methods, in a part of a struct or an array")
      | _, _ => pure ()) := by
    split
    · exact t_ite trivial (tail _)
    · refine t_prog ?_ (t_prog ?_ ?_)
      · funext; simp only [eqGuardType_eq L]
      · simp only [depth_eq L]
      · exact t_ite trivial (tail _)
    · exact trivial
  unfold eqGuard
  cases op <;> first | exact mid | exact trivial
theorem t_floatToInt (s : FloatKind) (b : Nat) (d : IntKind) : Tame K (PFv K) (Conv.floatToInt s b d) := by
  have _ := L
  have any : Tame K (PFv K) (do pure (.int d (d.wrap (← choose (.floatToInt s b d))))) := t_bind (A := fun _ => True) ⟨trivial, fun _ => trivial⟩ fun _ _ => pf_int _ _
  unfold Conv.floatToInt
  dsimp only
  split
  · split
    · exact t_pure (pf_int _ _)
    · exact any
  · exact any
theorem ok_binOpG {op : BinOp} {t t' : TypeId} {x y : Operand} (h : o.op = .binOp op t x y t') (heq : ∀ a b, PFv K a → PFv K b → Tame K (fun _ => True) (Op.equal t a b)) (hgd : ∀ d a b, PFv K a → PFv K b → Tame K (fun _ => True) (Op.eqGuardIn d t a b)) (hx : OpdOk K x) (hy : OpdOk K y) : OpOk K o := fun ev he => by
  unfold execOp; simp only [h]
  have hv := he.val hx
  have hw := he.val hy
  exact nv L (t_bind (t_eqGuard L op (fun d => hgd d _ _ hv hw) x y) fun _ _ => t_binOp L op (heq _ _ hv hw) hv hw)
theorem ok_binOp {op : BinOp} {t t' : TypeId} {x y : Operand} (h : o.op = .binOp op t x y t') (ht : ∃ k, K.P.underlying t = some (.int k)) (hx : OpdOk K x) (hy : OpdOk K y) : OpOk K o := fun ev he => by
  obtain ⟨k, ht⟩ := ht
  exact ok_binOpG L h (fun a b ha hb => t_equalInt L ht ha hb _) (fun d a b _ _ => t_eqGuardInt L ⟨k, ht⟩ a b d) hx hy ev he
theorem ok_unOp {op : UnOp} {t : TypeId} {x : Operand} (h : o.op = .unOp op t x) : OpOk K o := fun ev he => by
  unfold execOp; simp only [h]
  refine nv L ?_
  unfold Op.unary
  split
  · exact t_intArith L _ _ _ _
  · exact t_intBits L _ _ _ _
  · exact t_pure (.inr (.float _ _))
  · exact t_pure (.inr (.complex _ _ _))
  · exact t_pure (pf_bool _)
  · exact t_addr
  · exact t_addr
  · exact t_stuck _
theorem ok_convert {s d : TypeId} {x : Operand} (h : o.op = .convert s d x) (hs : ∃ k, K.P.underlying s = some (.int k)) (hd : ∃ k, K.P.underlying d = some (.int k)) : OpOk K o := fun ev he => by
  unfold execOp; simp only [h]
  refine nv L ?_
  obtain ⟨k, hs⟩ := hs
  obtain ⟨k', hd⟩ := hd
  unfold convert
  refine t_bind (t_und L s) fun u hu => t_bind (t_und L d) fun u' hu' => ?_
  rw [hs] at hu; rw [hd] at hu'
  cases hu; cases hu'
  split
  all_goals first | exact (t_pure (pf_int _ _) : Tame K (PFv K) (Conv.intToInt _ _)) | exact t_floatToInt L _ _ _ | exact t_addr | exact t_noEntry _ | (exfalso; simp_all; done)
theorem ok_fieldAddr {s : TypeId} {x : Operand} {f : Nat} (h : o.op = .fieldAddr s x f) (hx : OpdOk K x) : OpOk K o := fun ev he => by
  unfold execOp; simp only [h]
  refine nv L (t_bind (t_und L s) fun u _ => ?_)
  split
  · split
    · exact t_bind (t_sureAddr L (he.val hx)) fun a ha => t_bind (t_fieldPlace L ha _) fun b hb => pf_ptr hb
    · exact t_stuck _
  · exact t_stuck _
theorem ok_indexAddr {t : TypeId} {x y : Operand} (h : o.op = .indexAddr t x y) (hx : OpdOk K x) : OpOk K o := fun ev he => by
  unfold execOp; simp only [h]
  refine nv L ?_
  have hv := he.val hx
  generalize ev x = v at hv
  unfold Instr.indexAt
  refine t_bind (t_asIntOf L _) fun ki _ => ?_
  obtain ⟨k, i⟩ := ki
  dsimp only
  have tail : ∀ z : Option Addr × Nat × TypeId, (∀ a, z.1 = some a → PFb K a.block) → Tame K (PFv K) (do
      let __do_lift ← underlying t
      match z.1 with
        | some a =>
          if 0 ≤ i ∧ i < z.2.1 then do
            let __do_lift ← sizeOf z.2.2
            pure (Value.pointer (some (a.add (i.toNat * __do_lift))))
          else if (decide (z.2.1 ≤ 1) && match __do_lift with | TypeDesc.array _ _ => true | _ => false) = true then
            unsupported (Unsupported.noEntry "op/indexAddr.an index out of range at an array of length 0 or 1 (ledger 616)")
          else boundsPanic k i z.2.1 BoundsCode.index
        | none => boundsPanic k i 0 BoundsCode.index) := fun z hz => by
    refine t_bind (t_und L t) fun d _ => ?_
    split
    · rename_i a ha
      refine t_ite (t_bind (t_size L _) fun n _ => pf_ptr ?_) (t_ite (t_noEntry _) (t_boundsPanic L _ _ _ _))
      unfold Addr.add
      split <;> exact hz a ha
    · exact t_boundsPanic L _ _ _ _
  refine t_bind (t_und L t) fun u hu => ?_
  split
  · exact t_bind (t_sureAddr L hv) fun a ha => tail (some a, _, _) fun b e => by cases e; exact ha
  · rename_i base len cap
    exact tail (base, len, _) fun b e => by
      have e' : base = some b := e
      subst e'
      exact hv.slc
  · exact t_bind (A := fun _ => False) (t_stuck _) fun z h => h.elim
theorem ok_extract {x : Operand} {n : Nat} (h : o.op = .extract x n) (hx : OpdOk K x) : OpOk K o := fun ev he => by
  unfold execOp; simp only [h]
  refine nv L ?_
  have hv := he.val hx
  generalize ev x = v at hv
  unfold Instr.extract
  split
  · split
    · rename_i z hz
      exact hv.tups z (Array.mem_iff_getElem?.2 ⟨_, hz⟩)
    · exact t_stuck _
  · exact t_stuck _
end
end Go.Proofs.YtmmjlngbiilagaaGreatDoor

/-
  TAME OPERATIONS: slice literals, calls, len; callFunc.
-/
namespace Go.Proofs.YtmmjlngbiilagaaGreatDoor
open Go Go.Conc

section
variable {K : Cfg} (L : Low K) {o : Oper}
theorem foldl_pf : ∀ (l : List (Value × Nat)) (off : Nat) (cs : Array Value), (∀ x ∈ cs, PFv K x) → (∀ x ∈ l, PFv K x.1) → ∀ x ∈ l.foldl (fun cs (c, j) => cs.setIfInBounds (off + j) c) cs, PFv K x := by
  intro l
  induction l with
  | nil => exact fun off cs h _ => h
  | cons y l ih =>
    intro off cs h hl
    exact ih off _ (fun x hx => (mem_setIf hx).elim (fun e => e ▸ hl y (List.mem_cons_self ..)) (h x)) fun x hx => hl x (List.mem_cons_of_mem _ hx)
theorem fill_pf (place : Nat → Option (Nat × Nat)) : ∀ (parts : List (Nat × Value)) (cells out : Array Value), (∀ x ∈ cells, PFv K x) → (∀ p ∈ parts, PFv K p.2) → Instr.fill place cells parts = some out → ∀ x ∈ out, PFv K x := by
  intro parts
  induction parts with
  | nil => intro cells out h _ e; simp only [Instr.fill, Option.some.injEq] at e; exact e ▸ h
  | cons p parts ih =>
    obtain ⟨i, v⟩ := p
    intro cells out h hp e
    simp only [Instr.fill] at e
    split at e
    · cases e
    · split at e
      · cases e
      · refine ih _ out ?_ (fun q hq => hp q (List.mem_cons_of_mem _ hq)) e
        intro x hx
        rw [← Array.foldl_toList] at hx
        refine foldl_pf _ _ cells h (fun y hy => ?_) x hx
        have hv : PFv K v := hp (i, v) (List.mem_cons_self ..)
        refine hv.cells y.1 ?_
        have := Array.mem_toList_iff.1 hy
        obtain ⟨a, b⟩ := y
        obtain ⟨k, hk⟩ := Array.mem_iff_getElem?.1 this
        simp only [Array.getElem?_zipIdx, Option.map_eq_some_iff, Prod.mk.injEq] at hk
        obtain ⟨z, hz, rfl, _⟩ := hk
        exact Array.mem_iff_getElem?.2 ⟨_, hz⟩
include L
theorem ok_buildSlice {t : TypeId} {n : Nat} {parts : Array (Nat × Operand)} (h : o.op = .buildSlice t n parts) (hp : ∀ p ∈ parts, OpdOk K p.2) : OpOk K o := fun ev he => by
  unfold execOp; simp only [h]
  refine nv L ?_
  have hps : ∀ p ∈ (parts.map fun (i, x) => (i, ev x)).toList, PFv K p.2 := fun p hp' => by
    obtain ⟨q, hq, rfl⟩ := Array.mem_map.1 (Array.mem_toList_iff.1 hp')
    exact he.val (hp q hq)
  generalize (parts.map fun (i, x) => (i, ev x)) = ps at hps
  unfold Instr.buildSlice
  refine t_bind (t_und L t) fun u _ => ?_
  split
  · rename_i elem hel
    refine t_bind (t_size L elem) fun size _ => ?_
    have tail : ∀ zero : Array Value, (∀ x ∈ zero, PFv K x) → Tame K (PFv K) (do
        let some cells := Instr.fill (fun i => some (i * size, size)) ((Array.range (n * size)).map (zero[· % zero.size]!)) ps.toList | stuck "buildSlice: a part of the wrong size"
        pure (.slice (some (← newRow elem cells)) n n)) := fun zero hz => by
      split
      · rename_i cells hc
        refine t_bind (t_newRow L elem (fill_pf _ _ _ cells (fun x hx => ?_) hps hc)) fun a ha => pf_slice _ _ ha
        obtain ⟨j, _, rfl⟩ := Array.mem_map.1 hx
        rw [Array.getElem!_eq_getD, Array.getD_eq_getD_getElem?]
        cases hj : zero[j % zero.size]? with
        | none => exact pf_bool _
        | some z => exact hz z (Array.mem_iff_getElem?.2 ⟨_, hj⟩)
      · exact t_stuck _
    have tail2 : Tame K (PFv K) (do
        let zero ← if n * size = 0 then pure #[] else do pure (← zeroValue elem).cells
        let some cells := Instr.fill (fun i => some (i * size, size)) ((Array.range (n * size)).map (zero[· % zero.size]!)) ps.toList | stuck "buildSlice: a part of the wrong size"
        pure (.slice (some (← newRow elem cells)) n n)) := by
      dsimp only
      split
      · exact tail #[] (by simp)
      · exact t_bind (t_zero L elem) fun z hz => tail z.cells hz.cells
    dsimp only
    exact t_ite (t_bind (A := fun _ => True) (t_limit _) fun _ _ => tail2) tail2
  · exact t_stuck _
theorem t_asAddr' {v : Value} (h : PFv K v) : Tame K (fun a => PFb K a.block) (asAddr v) := by
  unfold asAddr
  split
  · exact h.ptr
  · exact t_rpNil L
  · exact t_stuck _
def PlaceOk (K : Cfg) : Place → Prop
  | .val v => PFv K v
  | .var a => PFb K a.block
theorem t_placeGet (t : TypeId) {x : Place} (hx : PlaceOk K x) : Tame K (PFv K) (x.get t) := by
  cases x with
  | val v => exact t_pure hx
  | var a => exact t_loadVar L t a
theorem t_follow : ∀ (l : List FieldStep) (t : TypeId) {x : Place}, PlaceOk K x → Tame K (fun r : TypeId × Place => PlaceOk K r.2) (follow l t x) := by
  intro l
  induction l with
  | nil => exact fun t x hx => t_pure hx
  | cons s rest ih =>
    intro t x hx
    unfold follow
    refine t_bind (t_und L _) fun d _ => ?_
    split
    · split
      · split
        · exact t_bind (t_placeGet L t hx) fun v hv => t_bind (t_asAddr' L hv) fun a ha => t_bind (t_fieldPlace L ha _) fun b hb => ih _ hb
        · split
          · exact t_bind (t_fieldPlace L hx _) fun b hb => ih _ hb
          · exact t_bind (t_part L _ _ (PFv.aggs hx)) fun b hb => ih _ hb
          · exact t_stuck _
      · exact t_stuck _
    · exact t_stuck _
theorem t_ssaWrap (ts : Array TypeId) (t : TypeId) {x : Value} (hx : PFv K x) (s1 s2 : ByteArray) : Tame K (PFv K) (Builtin.ssaWrapNilChk_ ts t #[x, .string s1, .string s2]) := by
  unfold Builtin.ssaWrapNilChk_
  cases x with
  | pointer a =>
    cases a with
    | some a => exact hx
    | none =>
      refine t_bind (A := fun _ => True) ⟨show (2 : Nat) ≠ 0 by decide, fun _ => trivial⟩ fun n _ => ?_
      refine t_ite (t_bind (A := fun _ => True) (t_rpNil L) fun _ _ => ?_) ?_
      all_goals
        dsimp only
        split
        · refine t_bind (t_und L _) fun d _ => ?_
          split
          · refine t_bind (t_typeInfo L _) fun i _ => ?_
            split
            · split
              · split
                · exact t_prog (by simp only [rt_eq L]) trivial
                · trivial
              · trivial
            · trivial
          · trivial
        · trivial
  | _ => exact t_stuck _
theorem t_receiverAt (t : TypeId) {x : Place} (hx : PlaceOk K x) (p : Bool) (wr : Option String) : Tame K (PFv K) (receiverAt t x p wr) := by
  unfold receiverAt
  refine t_bind (t_und L _) fun d _ => ?_
  split
  · exact t_placeGet L _ hx
  · refine t_bind (t_placeGet L _ hx) fun v hv => ?_
    split
    · exact t_bind (t_ssaWrap L _ _ hv _ _) fun v hv => t_bind (t_asAddr' L hv) fun a _ => t_loadVar L _ a
    · exact t_bind (A := PFv K) hv fun v hv => t_bind (t_asAddr' L hv) fun a _ => t_loadVar L _ a
  · exact t_pure (pf_ptr hx)
  · exact t_stuck _
  · exact t_placeGet L _ hx
theorem t_method (name : String) : ∀ (n : Nat) (t : TypeId) {v : Value}, PFv K v → Tame K (fun r : FuncId × Value => PFv K r.2) (method n t v name) := by
  intro n
  induction n with
  | zero => exact fun t v hv => trivial
  | succ n ih =>
    intro t v hv
    unfold method
    refine t_bind (t_typeInfo L _) fun i _ => ?_
    split
    · refine t_bind (t_follow L _ t (x := .val v) hv) fun r hr => ?_
      obtain ⟨xt, x⟩ := r
      dsimp only at hr ⊢
      split
      · refine t_bind (t_placeGet L _ hr) fun y hy => ?_
        split
        · exact ih _ (hy.imp id fun h => by cases h with | iface _ h => exact h)
        · exact t_rpNil L
        · exact t_stuck _
      · exact t_bind (t_receiverAt L _ hr _ _) fun y hy => t_pure hy
    · exact t_stuck _
theorem ok_callV {c : Call} {x : Operand} (h : o.op = .call c) (hc : c.callee = .value x) (hx : OpdOk K x) (ha : ∀ y ∈ c.args, OpdOk K y) (hcalls : CallsOk K) : OpOk K o := fun ev he => by
  unfold execOp; simp only [h]
  have hargs : ∀ y ∈ c.args.map ev, PFv K y := fun y hy => by
    obtain ⟨z, hz, rfl⟩ := Array.mem_map.1 hy
    exact he.val (ha z hz)
  unfold resolve
  simp only [hc]
  have hv := he.val hx
  generalize ev x = v at hv
  generalize c.args.map ev = args at hargs
  cases v with
  | func fn first captured =>
    have hv' := hv.resolve_left (by exact id)
    cases hv' with
    | func _ h1 h2 =>
      have hfa : ∀ y ∈ first ++ args, PFv K y := fun y hy => by
        rcases Array.mem_append.1 hy with hy | hy
        · exact .inr (h1 y hy)
        · exact hargs y hy
      have hrest : ∀ y ∈ (first ++ args).extract 1 (first ++ args).size, PFv K y := fun y hy => hfa y (by
        obtain ⟨i, hi⟩ := Array.mem_iff_getElem?.1 hy
        rw [Array.getElem?_extract] at hi
        split at hi
        · exact Array.mem_iff_getElem?.2 ⟨_, hi⟩
        · cases hi)
      have hcm : ∀ (r : Value) (nm : String), PFv K r → Tame K (NextOk K) (callMethod r nm ((first ++ args).extract 1 (first ++ args).size)) := fun r nm hr => by
        unfold callMethod
        split
        · rename_i t w
          refine t_prog (by simp only [L.tables]) ?_
          refine t_bind (t_method L nm _ t (hr.imp id fun h => by cases h with | iface _ h => exact h)) fun z hz => ?_
          exact hcalls _ _ fun y hy => by
            rcases Array.mem_append.1 hy with hy | hy
            · simp only [List.mem_toArray, List.mem_singleton] at hy; subst hy; exact hz
            · exact hrest y hy
        · exact t_rpNil L
        · exact t_stuck _
      cases fn with
      | func f =>
        show Tame K (NextOk K) (callFunc f (first ++ args ++ captured))
        exact hcalls f _ fun y hy => by
          rcases Array.mem_append.1 hy with hy | hy
          · exact hfa y hy
          · exact .inr (h2 y hy)
      | method nm =>
        show Tame K (NextOk K) (invoke (.fn (.method nm) captured) (first ++ args))
        unfold invoke
        dsimp only
        split
        · rename_i r hr
          exact hcm _ _ (hfa _ (Array.mem_iff_getElem?.2 ⟨0, hr⟩))
        · exact t_stuck _
      | methodOf t nm =>
        show Tame K (NextOk K) (invoke (.fn (.methodOf t nm) captured) (first ++ args))
        unfold invoke
        dsimp only
        split
        · rename_i r hr
          have h0 := hfa _ (Array.mem_iff_getElem?.2 ⟨0, hr⟩)
          refine t_bind (t_und L _) fun d _ => ?_
          split
          · exact hcm _ _ h0
          · exact hcm _ _ (h0.imp id fun h => .iface _ h)
        · exact t_stuck _
      | via t path f p =>
        show Tame K (NextOk K) (invoke (.fn (.via t path f p) captured) (first ++ args))
        unfold invoke
        dsimp only
        split
        · rename_i r hr
          have h0 := hfa _ (Array.mem_iff_getElem?.2 ⟨0, hr⟩)
          unfold receiverVia
          refine t_bind (t_bind (t_follow L _ t (x := .val r) h0) fun z hz => (t_receiverAt L _ hz _ _ : Tame K (PFv K) _)) fun y hy => ?_
          exact hcalls _ _ fun q hq => by
            rcases Array.mem_append.1 hq with hq | hq
            · simp only [List.mem_toArray, List.mem_singleton] at hq; subst hq; exact hy
            · exact hrest q hq
        · exact t_stuck _
      | yield l =>
        show Tame K (NextOk K) (Instr.yield l (first ++ args))
        unfold Instr.yield Instr.getLoop
        refine ⟨.inr fun o ho => ?_, fun o ho => ?_, fun _ t => ⟨trivial, fun o ho => .inr fun _ _ h => h⟩⟩
        · cases o <;> first | exact ho.elim | exact fun _ _ h => h
        · cases o <;> first | exact ho.elim | trivial
  | nilFunc => exact t_rpNil L
  | _ => exact t_stuck _
theorem ok_len {c : Call} {x : Operand} {t e : TypeId} (h : o.op = .call c) (hc : c = { callee := .builtin .len, args := #[x], argTypes := #[t] }) (ht : K.P.underlying t = some (.slice e) ∨ K.P.underlying t = some .string) : OpOk K o := fun ev he => by
  subst hc
  unfold execOp; simp only [h]
  show Tame K (NextOk K) (do pure (.value (← Builtin.len_ #[t] o.type (#[x].map ev))))
  refine nv L ?_
  rw [show (#[x].map ev) = #[ev x] by simp]
  unfold Builtin.len_
  refine t_bind (t_und L t) fun u hu => ?_
  split <;> first | exact t_pure (pf_int _ _) | exact t_stuck _ | (exfalso; rcases ht with ht | ht <;> rw [ht] at hu <;> simp_all; done)
end
end Go.Proofs.YtmmjlngbiilagaaGreatDoor

/-
  THE STATIC CHECK: a Boolean by which the code of a function is tame.
-/
namespace Go.Proofs.YtmmjlngbiilagaaGreatDoor
open Go Go.Conc

def constB : Value → Bool
  | .bool _ | .int .. | .float .. | .complex .. | .string _ | .nilFunc | .nilIface | .pointer none | .slice none _ _ | .map _ | .chan _ => true
  | _ => false
def opdB : Operand → Bool
  | .const c => constB c
  | .global _ => false
  | _ => true
def opB (isInt isStr isSlc : TypeId → Bool) (o : Oper) : Bool :=
  match o.op with
  | .move x | .assign x => opdB x
  | .pick _ a b => opdB a && opdB b
  | .alloc _ => true
  | .box _ x => opdB x
  | .buildSlice _ _ parts => parts.all fun p => opdB p.2
  | .load _ a => opdB a
  | .store _ a x => opdB a && opdB x
  | .nilCheck x => opdB x
  | .binOp _ t x y _ => isInt t && opdB x && opdB y
  | .unOp .. => true
  | .convert s d _ => isInt s && isInt d
  | .fieldAddr _ x _ => opdB x
  | .indexAddr _ x _ => opdB x
  | .index t _ _ => isStr t
  | .extract x _ => opdB x
  | .call { callee := .value x, args, .. } => opdB x && args.all opdB
  | .call { callee := .builtin .len, args, argTypes } => args.size == 1 && argTypes.size == 1 && argTypes.all fun t => isStr t || isSlc t
  | _ => false
def codeB (isInt isStr isSlc : TypeId → Bool) : Code → Bool
  | .skip | .ret | .label _ | .exit _ | .refuse _ => true
  | .seq a b | .cond _ a b => codeB isInt isStr isSlc a && codeB isInt isStr isSlc b
  | .region _ ops _ => ops.all (opB isInt isStr isSlc)
  | .block _ c | .loop c | .scope c => codeB isInt isStr isSlc c
  | _ => false

section
variable {K : Cfg}
theorem constB_pf {v : Value} (h : constB v = true) : PFv K v := by
  cases v with
  | bool b => exact .inr (.bool b)
  | int k n => exact .inr (.int k n)
  | float k n => exact .inr (.float k n)
  | complex k a b => exact .inr (.complex k a b)
  | string s => exact .inr (.string s)
  | pointer a => cases a with
    | none => exact .inr .nilp
    | some a => cases h
  | slice a l c => cases a with
    | none => exact .inr (.nils l c)
    | some a => cases h
  | map r => exact .inr (.map r)
  | chan r => exact .inr (.chan r)
  | nilFunc => exact .inr .nilFunc
  | nilIface => exact .inr .nilIface
  | _ => cases h
theorem opdB_ok : ∀ {x : Operand}, opdB x = true → OpdOk K x
  | .const _, h => constB_pf h
  | .tmp _, _ => trivial
  | .global _, h => by cases h
  | .func _, _ => trivial
variable (L : Low K) (hcalls : CallsOk K) {isInt isStr isSlc : TypeId → Bool}
  (hI : ∀ t, isInt t = true → ∃ k, K.P.underlying t = some (.int k)) (hS : ∀ t, isStr t = true → K.P.underlying t = some .string) (hC : ∀ t, isSlc t = true → ∃ e, K.P.underlying t = some (.slice e))
include L
theorem ok_index {o : Oper} {t : TypeId} {x y : Operand} (h : o.op = .index t x y) (ht : K.P.underlying t = some .string) : OpOk K o := fun ev he => by
  unfold execOp; simp only [h]
  refine nv L ?_
  unfold Instr.index
  refine t_bind (t_asIntOf L _) fun ki _ => ?_
  obtain ⟨k, i⟩ := ki
  dsimp only
  refine t_bind (t_und L t) fun u hu => ?_
  rw [ht] at hu
  cases hu
  generalize ev x = v
  split
  · rename_i h1; cases h1
  · split
    · exact t_pure (pf_int _ _)
    · exact t_boundsPanic L _ _ _ _
  · exact t_stuck _
include hcalls hI hS hC
theorem opB_ok {o : Oper} (h : opB isInt isStr isSlc o = true) : OpOk K o := by
  unfold opB at h
  split at h
  · exact ok_move L ‹_› (opdB_ok h)
  · exact ok_assign L ‹_› (opdB_ok h)
  · simp only [Bool.and_eq_true] at h; exact ok_pick L ‹_› (opdB_ok h.1) (opdB_ok h.2)
  · exact ok_alloc L ‹_›
  · exact ok_box L ‹_› (opdB_ok h)
  · exact ok_buildSlice L ‹_› fun p hp => opdB_ok (Array.all_eq_true_iff_forall_mem.1 h p hp)
  · exact ok_load L ‹_› (opdB_ok h)
  · simp only [Bool.and_eq_true] at h; exact ok_store L ‹_› (opdB_ok h.1) (opdB_ok h.2)
  · exact ok_nilCheck L ‹_› (opdB_ok h)
  · simp only [Bool.and_eq_true] at h; exact ok_binOp L ‹_› (hI _ h.1.1) (opdB_ok h.1.2) (opdB_ok h.2)
  · exact ok_unOp L ‹_›
  · simp only [Bool.and_eq_true] at h; exact ok_convert L ‹_› (hI _ h.1) (hI _ h.2)
  · exact ok_fieldAddr L ‹_› (opdB_ok h)
  · exact ok_indexAddr L ‹_› (opdB_ok h)
  · exact ok_index L ‹_› (hS _ h)
  · exact ok_extract L ‹_› (opdB_ok h)
  · simp only [Bool.and_eq_true] at h; exact ok_callV L ‹_› rfl (opdB_ok h.1) (fun y hy => opdB_ok (Array.all_eq_true_iff_forall_mem.1 h.2 y hy)) hcalls
  · rename_i args ts hop
    simp only [Bool.and_eq_true, beq_iff_eq] at h
    obtain ⟨x, rfl⟩ := Array.size_eq_one_iff.1 h.1.1
    obtain ⟨t, rfl⟩ := Array.size_eq_one_iff.1 h.1.2
    have ht := Array.all_eq_true_iff_forall_mem.1 h.2 t (by simp)
    rcases Bool.or_eq_true _ _ ▸ ht with ht | ht
    · exact ok_len L (e := 0) hop rfl (.inr (hS _ ht))
    · obtain ⟨e, he⟩ := hC _ ht
      exact ok_len L (e := e) hop rfl (.inl he)
  · cases h
theorem codeB_ok : ∀ {c : Code}, codeB isInt isStr isSlc c = true → CodeOk K c := by
  intro c
  induction c with
  | seq a b iha ihb => exact fun h => by simp only [codeB, Bool.and_eq_true] at h; exact ⟨iha h.1, ihb h.2⟩
  | cond o a b iha ihb => exact fun h => by simp only [codeB, Bool.and_eq_true] at h; exact ⟨iha h.1, ihb h.2⟩
  | region id ops d => exact fun h i o ho => opB_ok L hcalls hI hS hC (Array.all_eq_true_iff_forall_mem.1 h o (Array.mem_iff_getElem?.2 ⟨i, ho⟩))
  | block n c ih => exact fun h => ih h
  | loop c ih => exact fun h => ih h
  | scope c ih => exact fun h => ih h
  | rangeFunc => exact fun h => by cases h
  | goto => exact fun h => by cases h
  | _ => exact fun _ => trivial
end
end Go.Proofs.YtmmjlngbiilagaaGreatDoor

/-
  A PRUNED PROGRAM: of a given one only some functions are kept; the rest is made dumb.
-/
namespace Go.Proofs.YtmmjlngbiilagaaGreatDoor
open Go Go.Conc

def noOne : Func := { name := "", origin := "", params := #[], resultTypes := #[], nfree := 0, ntmps := 0, results := #[], body := none, norace := false, tmpNames := #[] }
def dumbOne : Func := { name := "", origin := "", params := #[], resultTypes := #[], nfree := 0, ntmps := 0, results := #[], body := some (.refuse ""), norace := false, tmpNames := #[] }
def dumb (fn : Func) : Func := if fn.body.isSome then dumbOne else noOne
def prunedOf (P : Program) (keep : Nat → Bool) : Program := { P with funcs := (P.funcs.toList.mapIdx fun i fn => if keep i then fn else dumb fn).toArray }
theorem noOne_next : Extern.findNext noOne = none := by kernel_rfl
theorem noOne_find : Extern.find noOne = none := by kernel_rfl
theorem noOne_init : ((noOne.name.endsWith ".init" && !noOne.name.startsWith "(") && !noOne.name.startsWith "gosem.") = false := by kernel_rfl
theorem noOne_num : (noOne.name == "runtime.NumGoroutine") = false := by kernel_rfl
theorem dumbOne_num : (dumbOne.name == "runtime.NumGoroutine") = false := by kernel_rfl
theorem prunedOf_at (P : Program) (keep : Nat → Bool) (f : Nat) : (prunedOf P keep).funcs[f]? = (P.funcs[f]?).map fun fn => if keep f then fn else dumb fn := by
  simp [prunedOf, List.getElem?_mapIdx]

theorem t_progDead {K : Cfg} {α : Type} {A : α → Prop} {f : Program → Sem α} (h : Dead (f K.V)) : Tame K A (program >>= f) := .inr h
section
variable {K : Cfg} (L : Low K) {keep : Nat → Bool}
  (hV : ∀ f : Nat, K.V.funcs[f]? = (K.P.funcs[f]?).map fun fn => if keep f then fn else dumb fn)
  (hn : ∀ (f : Nat) (fn : Func), K.P.funcs[f]? = some fn → (fn.name == "runtime.NumGoroutine") = false)
  (hx : ∀ (f : Nat) (fn : Func), keep f = true → K.P.funcs[f]? = some fn → fn.body = none → ∃ e, Extern.findNext fn = none ∧ Extern.find fn = some e ∧ ∀ args : Array Value, (∀ x ∈ args, PFv K x) → Tame K (PFv K) (e args))
include L hV hn hx
theorem callsOk : CallsOk K := have _ := L; fun f args ha => by
  unfold callFunc
  cases hP : K.P.funcs[f]? with
  | none =>
    have hv := hV f
    rw [hP] at hv
    refine t_prog ?_ ?_
    · simp only [hP, hv, Option.map_none]
    · simp only [hP]
      exact t_stuck _
  | some fn =>
    have hv := hV f
    rw [hP] at hv
    have hnum := hn f fn hP
    by_cases hk : keep f = true
    · simp only [Option.map_some, hk, if_true] at hv
      refine t_prog ?_ ?_
      · simp only [hP, hv]
      · simp only [hP, hnum, Bool.false_eq_true, if_false]
        cases hb : fn.body with
        | some c =>
          simp only [Option.isNone_some, Bool.false_eq_true, if_false]
          exact t_pure ha
        | none =>
          obtain ⟨e, h1, h2, h3⟩ := hx f fn hk hP hb
          simp only [Option.isNone_none, if_true, h1, h2]
          refine t_bind (A := fun _ => True) ⟨.inr ⟨f, rfl⟩, trivial⟩ fun _ _ => ?_
          exact t_bind (h3 args ha) fun v hv => t_pure hv
    · simp only [Option.map_some, hk, if_false, Bool.false_eq_true] at hv
      cases hb : fn.body with
      | some c =>
        have hd : dumb fn = dumbOne := by simp [dumb, hb]
        rw [hd] at hv
        refine t_prog ?_ ?_
        · simp only [hP, hv, hnum, dumbOne_num, hb, Bool.false_eq_true, if_false, Option.isNone_some]
          rfl
        · simp only [hP, hnum, hb, Bool.false_eq_true, if_false, Option.isNone_some]
          exact t_pure ha
      | none =>
        have hd : dumb fn = noOne := by simp [dumb, hb]
        rw [hd] at hv
        refine t_progDead ?_
        simp only [hv, noOne_num, Bool.false_eq_true, if_false, show noOne.body.isNone = true from rfl, if_true, noOne_next, noOne_find, noOne_init]
        exact trivial
end
/-- Results that lie in the frame. -/
def resB : ResultVar → Bool
  | .tmp _ => true
  | _ => false
theorem t_results {K : Cfg} {fn : Func} (h : fn.results.all resB = true) {tmps : Array Value} (ht : ∀ x ∈ tmps, PFv K x) : Tame K (PFv K) (results fn tmps) := by
  unfold results
  have key : ∀ (l : List ResultVar), l.all resB = true → Tame K (fun vs : List Value => ∀ x ∈ vs, PFv K x) (l.mapM (m := Sem) fun
    | .tmp t => pure (tmps.getD t undef)
    | .cell a t => do loadVar t (← asAddr (tmps.getD a undef))) := by
    intro l
    induction l with
    | nil => exact fun _ => by rw [List.mapM_nil]; exact t_pure (by simp)
    | cons x l ih =>
      intro hl
      simp only [List.all_cons, Bool.and_eq_true] at hl
      rw [List.mapM_cons]
      cases x with
      | tmp t =>
        refine t_bind (A := PFv K) (t_pure ?_) fun v hv => t_bind (ih hl.2) fun vs hvs => t_pure fun y hy => ?_
        · rw [Array.getD_eq_getD_getElem?]
          cases he : tmps[t]? with
          | none => exact .undef K
          | some x => exact ht x (Array.mem_iff_getElem?.2 ⟨t, he⟩)
        · rcases List.mem_cons.1 hy with rfl | hy
          · exact hv
          · exact hvs y hy
      | cell a t => simp [resB] at hl
  rw [Array.mapM_eq_mapM_toList]
  refine t_bind (A := fun vs : Array Value => ∀ x ∈ vs, PFv K x) ?_ fun vs hvs => ?_
  · refine Tame.bind (A := fun vs : List Value => ∀ x ∈ vs, PFv K x) ?_ (key fn.results.toList (by rw [Array.all_toList]; exact h))
    exact fun vs hvs => t_pure fun x hx => hvs x (by simpa using hx)
  · split
    · exact t_pure (hvs _ (Array.getElem_mem _))
    · exact t_pure (pf_tuple hvs)
/-- What the check asks of a kept function. -/
def fnB (isInt isStr isSlc : TypeId → Bool) (keep : Nat → Bool) (i : Nat) (fn : Func) : Bool :=
  !(fn.name == "runtime.NumGoroutine") && (!keep i || (fn.results.all resB && match fn.body with
    | none => true
    | some c => codeB isInt isStr isSlc c))
section
variable {K : Cfg} (L : Low K) {keep : Nat → Bool} {isInt isStr isSlc : TypeId → Bool}
  (hV : K.V = prunedOf K.P keep)
  (hI : ∀ t, isInt t = true → ∃ k, K.P.underlying t = some (.int k)) (hS : ∀ t, isStr t = true → K.P.underlying t = some .string) (hC : ∀ t, isSlc t = true → ∃ e, K.P.underlying t = some (.slice e))
  (hB : ∀ (f : Nat) (fn : Func), K.P.funcs[f]? = some fn → fnB isInt isStr isSlc keep f fn = true)
  (hx : ∀ (f : Nat) (fn : Func), keep f = true → K.P.funcs[f]? = some fn → fn.body = none → ∃ e, Extern.findNext fn = none ∧ Extern.find fn = some e ∧ ∀ args : Array Value, (∀ x ∈ args, PFv K x) → Tame K (PFv K) (e args))
  (hrows : ∀ r, K.rows r = false)
include L hV hI hS hC hB hx hrows
theorem prune_by : Prune K where
  tables := by rw [hV]; rfl
  size := by rw [hV]; simp [prunedOf]
  keep := fun f fn h => by
    rw [hV, prunedOf_at] at h
    cases hP : K.P.funcs[f]? with
    | none => rw [hP] at h; cases h
    | some g =>
      rw [hP] at h
      simp only [Option.map_some, Option.some.injEq] at h
      have hb := hB f g hP
      simp only [fnB, Bool.and_eq_true, Bool.not_eq_true'] at hb
      by_cases hk : keep f = true
      · simp only [hk, if_true] at h
        subst h
        simp only [hk, Bool.not_true, Bool.false_or, Bool.and_eq_true] at hb
        refine .inl ⟨rfl, fun c hc => ?_, fun tmps ht => t_results hb.2.1 ht⟩
        have h2 := hb.2.2
        rw [hc] at h2
        refine codeB_ok L (callsOk (keep := keep) L (fun f => ?_) (fun f fn hf => ?_) hx) hI hS hC h2
        · rw [hV]; exact prunedOf_at _ _ _
        · have := hB f fn hf
          simp only [fnB, Bool.and_eq_true, Bool.not_eq_true'] at this
          exact this.1
      · simp only [hk, if_false, Bool.false_eq_true] at h
        subst h
        unfold dumb
        split
        · exact .inr (.inl ⟨_, rfl⟩)
        · exact .inr (.inr rfl)
  rows := fun r hr => by rw [hrows r] at hr; cases hr
end
end Go.Proofs.YtmmjlngbiilagaaGreatDoor

/-
  THE PROGRAM OF THE SORT: what slices.SortFunc by Compare comes to.
-/
namespace Go.Proofs.YtmmjlngbiilagaaGreatDoor
open Go Go.Conc

def keepS : List Nat := [31, 32, 53, 54, 55, 56, 57,
  71, 72, 73, 74, 75,
  76, 77, 78, 79, 80, 81, 82,
  94, 95, 96, 97, 98, 109,
  99]
def keptS (i : Nat) : Bool := keepS.any (· == i)
def isIntP (P : Program) (t : TypeId) : Bool := match P.underlying t with
  | some (.int _) => true
  | _ => false
def isStrP (P : Program) (t : TypeId) : Bool := match P.underlying t with
  | some .string => true
  | _ => false
def isSlcP (P : Program) (t : TypeId) : Bool := match P.underlying t with
  | some (.slice _) => true
  | _ => false
theorem isIntP_ok {P : Program} : ∀ t, isIntP P t = true → ∃ k, P.underlying t = some (.int k) := fun t h => by
  unfold isIntP at h
  split at h
  · exact ⟨_, ‹_›⟩
  · cases h
theorem isStrP_ok {P : Program} : ∀ t, isStrP P t = true → P.underlying t = some .string := fun t h => by
  unfold isStrP at h
  split at h
  · assumption
  · cases h
theorem isSlcP_ok {P : Program} : ∀ t, isSlcP P t = true → ∃ e, P.underlying t = some (.slice e) := fun t h => by
  unfold isSlcP at h
  split at h
  · exact ⟨_, ‹_›⟩
  · cases h
/-- Checked one by one. -/
def allFns (p : Nat → Func → Bool) : Nat → List Func → Bool
  | _, [] => true
  | i, f :: l => p i f && allFns p (i + 1) l
theorem allFns_at {p : Nat → Func → Bool} : ∀ {l : List Func} {i : Nat}, allFns p i l = true → ∀ (j : Nat) (f : Func), l[j]? = some f → p (i + j) f = true := by
  intro l
  induction l with
  | nil => intro i _ j f h; cases h
  | cons x l ih =>
    intro i h j f hj
    simp only [allFns, Bool.and_eq_true] at h
    cases j with
    | zero => cases hj; exact h.1
    | succ j =>
      have := ih h.2 j f hj
      rwa [show i + 1 + j = i + (j + 1) by omega] at this
theorem checkS : allFns (fnB (isIntP Tryz.prog) (isStrP Tryz.prog) (isSlcP Tryz.prog) keptS) 0 Tryz.prog.funcs.toList = true := by kernel_rfl
/-- Values without addresses. -/
def zeroB : Nat → Value → Bool
  | 0, _ => false
  | n + 1, .agg cs => cs.all (zeroB n)
  | n + 1, .tuple cs => cs.all (zeroB n)
  | _ + 1, v => constB v
theorem zeroB_pf {K : Cfg} : ∀ (n : Nat) (v : Value), zeroB n v = true → PFv K v := by
  intro n
  induction n with
  | zero => intro v h; cases h
  | succ n ih =>
    intro v h
    cases v with
    | agg cs => exact pf_agg fun x hx => ih x (Array.all_eq_true_iff_forall_mem.1 h x hx)
    | tuple cs => exact pf_tuple fun x hx => ih x (Array.all_eq_true_iff_forall_mem.1 h x hx)
    | _ => exact constB_pf h
def zerosB (n : Nat) : List TypeInfo → Bool
  | [] => true
  | i :: l => (match i.zero with | some z => zeroB n z | none => true) && zerosB n l
theorem zerosB_at {n : Nat} : ∀ {l : List TypeInfo}, zerosB n l = true → ∀ i ∈ l, ∀ z, i.zero = some z → zeroB n z = true := by
  intro l
  induction l with
  | nil => intro _ i h; cases h
  | cons x l ih =>
    intro h i hi z hz
    simp only [zerosB, Bool.and_eq_true] at h
    rcases List.mem_cons.1 hi with rfl | hi
    · have := h.1
      rw [hz] at this
      exact this
    · exact ih h.2 i hi z hz
theorem checkZ : zerosB 12 Tryz.prog.types.toList = true := by kernel_rfl
end Go.Proofs.YtmmjlngbiilagaaGreatDoor

/-
  ZERO VALUES HOLD NO ADDRESS, of types that are made at need, too. The sort's program is a pruned one.
-/
namespace Go.Proofs.YtmmjlngbiilagaaGreatDoor
open Go Go.Conc

theorem forIn_inv {α β : Type} (I : β → Prop) {f : α → β → Option (ForInStep β)} : ∀ (l : List α) (b : β), I b → (∀ a b, I b → ∀ s, f a b = some s → I s.value) → ∀ r, forIn l b f = some r → I r := by
  intro l
  induction l with
  | nil => intro b hb _ r h; cases h; exact hb
  | cons x l ih =>
    intro b hb hf r h
    rw [List.forIn_cons] at h
    cases hs : f x b with
    | none => rw [hs] at h; cases h
    | some s =>
      rw [hs] at h
      have := hf x b hb s hs
      cases s with
      | done c => cases h; exact this
      | yield c => exact ih c this hf r h
section
variable {K : Cfg} {info : TypeId → Option TypeInfo} (hi : ∀ t i z, info t = some i → i.zero = some z → PFv K z)
include hi
theorem zero_struct {fs : Array Field} {i : TypeInfo} {z : Value} (h : Made.reckonStruct info fs = some i) (hz : i.zero = some z) : PFv K z := by
  unfold Made.reckonStruct at h
  simp only [Option.bind_eq_bind] at h
  rw [Option.bind_eq_some_iff] at h
  obtain ⟨r, hr, h⟩ := h
  rw [← Array.forIn_toList] at hr
  have key := forIn_inv (fun r => ∀ cs : Array Value, r.2.2.2.2.2.2.2.1 = some cs → ∀ x ∈ cs, PFv K x) _ _ (fun cs e x hx => by cases e; simp at hx) ?_ r hr
  · have h' : i.zero = r.2.2.2.2.2.2.2.1.map .agg := by split at h <;> (cases h; rfl)
    rw [h'] at hz
    cases hc : r.2.2.2.2.2.2.2.1 with
    | none => simp [hc] at hz
    | some cs =>
      simp only [hc, Option.map_some, Option.some.injEq] at hz
      subst hz
      exact pf_agg (key cs hc)
  · intro f st hI s hs
    rw [Option.bind_eq_some_iff] at hs
    obtain ⟨j, hj, hs⟩ := hs
    have tail : ∀ (c : Nat) (cs : Array Value), (if c > Made.mostCells then none else st.2.2.2.2.2.2.2.1.bind fun a => j.zero.bind fun b => pure (a ++ b.cells)) = some cs → ∀ x ∈ cs, PFv K x := by
      intro c cs e x hx
      split at e
      · cases e
      · rw [Option.bind_eq_some_iff] at e
        obtain ⟨a, ha, e⟩ := e
        rw [Option.bind_eq_some_iff] at e
        obtain ⟨b, hb, e⟩ := e
        cases e
        rcases Array.mem_append.1 hx with hx | hx
        · exact hI a ha x hx
        · exact (hi _ _ _ hj hb).cells x hx
    split at hs
    · cases hs
    split at hs
    · cases hs
    split at hs <;> (rw [Option.bind_eq_some_iff] at hs; obtain ⟨tag, _, hs⟩ := hs; split at hs <;> (cases hs; exact tail _))
theorem zero_reckon {d : TypeDesc} {i : TypeInfo} {z : Value} (h : Made.reckon info d = some i) (hz : i.zero = some z) : PFv K z := by
  unfold Made.reckon at h
  simp only [Option.bind_eq_bind] at h
  have word : ∀ (d : TypeDesc) (s : String) (v : Value) (b : Bool) (n : Nat), constB v = true → some (Made.word d s v b n) = some i → PFv K z := fun d s v b n hv e => by
    cases e
    cases hz
    exact constB_pf hv
  cases d with
  | struct fs => exact zero_struct hi h hz
  | pointer e =>
    dsimp only at h
    rw [Option.bind_eq_some_iff] at h
    obtain ⟨j, _, h⟩ := h
    split at h
    · cases h
    · split at h
      · cases h
      · rw [Option.bind_eq_some_iff] at h
        obtain ⟨_, _, h⟩ := h
        exact word _ _ _ _ _ rfl h
    · rw [Option.bind_eq_some_iff] at h
      obtain ⟨_, _, h⟩ := h
      exact word _ _ _ _ _ rfl h
  | slice e =>
    dsimp only at h
    rw [Option.bind_eq_some_iff] at h
    obtain ⟨_, _, h⟩ := h
    rw [Option.bind_eq_some_iff] at h
    obtain ⟨_, _, h⟩ := h
    exact word _ _ _ _ _ rfl h
  | map k e =>
    dsimp only at h
    rw [Option.bind_eq_some_iff] at h
    obtain ⟨_, _, h⟩ := h
    rw [Option.bind_eq_some_iff] at h
    obtain ⟨_, _, h⟩ := h
    rw [Option.bind_eq_some_iff] at h
    obtain ⟨_, _, h⟩ := h
    rw [Option.bind_eq_some_iff] at h
    obtain ⟨_, _, h⟩ := h
    exact word _ _ _ _ _ rfl h
  | chan d e =>
    dsimp only at h
    rw [Option.bind_eq_some_iff] at h
    obtain ⟨_, _, h⟩ := h
    rw [Option.bind_eq_some_iff] at h
    obtain ⟨_, _, h⟩ := h
    exact word _ _ _ _ _ rfl h
  | func ps rs v =>
    dsimp only at h
    rw [Option.bind_eq_some_iff] at h
    obtain ⟨_, _, h⟩ := h
    exact word _ _ _ _ _ rfl h
  | array n e =>
    dsimp only at h
    rw [Option.bind_eq_some_iff] at h
    obtain ⟨j, hj, h⟩ := h
    rw [Option.bind_eq_some_iff] at h
    obtain ⟨_, _, h⟩ := h
    cases h
    dsimp only at hz
    split at hz
    · cases hz
    · split at hz
      · cases hz
        exact pf_agg (by simp)
      · cases hjz : j.zero with
        | none => rw [hjz] at hz; cases hz
        | some y =>
          rw [hjz] at hz
          cases hz
          refine pf_agg fun x hx => (hi _ _ _ hj hjz).cells x ?_
          simp only [Array.mem_flatten, Array.mem_replicate] at hx
          obtain ⟨l, ⟨_, rfl⟩, hx⟩ := hx
          exact hx
  | _ => cases h
end
theorem zero_made {K : Cfg} {T : Tables} (h0 : ∀ (t : TypeId) (i : TypeInfo) (z : Value), T.types[t]? = some i → i.zero = some z → PFv K z) : ∀ (f : Nat) (t : TypeId) (i : TypeInfo) (z : Value), Made.infoAt T f t = some i → i.zero = some z → PFv K z := by
  intro f
  induction f with
  | zero => intro t i z h; cases h
  | succ f ih =>
    intro t i z h hz
    unfold Made.infoAt at h
    split at h
    · exact h0 t i z h hz
    · rw [Option.bind_eq_some_iff] at h
      obtain ⟨d, _, h⟩ := h
      exact zero_reckon ih h hz
theorem zero_info {K : Cfg} {T : Tables} {n : Nat} (hz : zerosB n T.types.toList = true) (t : TypeId) (i : TypeInfo) (z : Value) (h : T.info? t = some i) (e : i.zero = some z) : PFv K z := by
  have h0 : ∀ (t : TypeId) (i : TypeInfo) (z : Value), T.types[t]? = some i → i.zero = some z → PFv K z := fun t i z h e =>
    zeroB_pf n z (zerosB_at hz i (Array.mem_toList_iff.2 (Array.mem_iff_getElem?.2 ⟨t, h⟩)) z e)
  unfold Tables.info? at h
  split at h
  · exact h0 t i z h e
  · exact zero_made h0 _ t i z h e

/-- The sort's program. -/
noncomputable def Sv : Program := prunedOf Tryz.prog keptS
/-- The bridge's terms for the sort. -/
noncomputable def KS (B : Nat) (G : Nat → Prop) : Cfg := ⟨Sv, Tryz.prog, false, B, G, fun _ => false, fun _ _ _ => False⟩
section
variable {B : Nat} {G : Nat → Prop} (hG : ∀ b, B ≤ b → G b)
include hG
theorem lowS : Low (KS B G) := ⟨rfl, hG, fun t i z h e => zero_info checkZ t i z h e⟩
end
end Go.Proofs.YtmmjlngbiilagaaGreatDoor

/-
  WHAT IS SAID OF A PROGRAM's TABLES AND KEPT FUNCTIONS IS SO OF THE PRUNED ONE; the shelf's sort at the sort's program.
-/
namespace Go.Proofs.YtmmjlngbiilagaaGreatDoor
open Go Go.Conc Go.Shelf Go.RowKit Go.Lib Go.Sort

section
variable {P : Program} {keep : Nat → Bool}
theorem pr_tables : (prunedOf P keep).toTables = P.toTables := by unfold prunedOf; rfl
theorem pr_und (t : TypeId) : (prunedOf P keep).underlying t = P.underlying t := by unfold Program.underlying; rw [pr_tables]
theorem pr_typeInfo (t : TypeId) (w : World) : (typeInfo t).run (prunedOf P keep) w = (typeInfo t).run P w := by
  unfold typeInfo
  simp only [Sem.run_bind, run_program, Result.andThen_ok]
  rw [pr_tables]
  cases P.info? t <;> simp only [Sem.run_pure, run_stuck]
theorem pr_underlying (t : TypeId) (w : World) : (underlying t).run (prunedOf P keep) w = (underlying t).run P w := by
  unfold underlying
  simp only [Sem.run_bind, run_program, Result.andThen_ok]
  rw [pr_und]
  cases P.underlying t <;> simp only [Sem.run_pure, run_stuck]
theorem typeInfo_ends (t : TypeId) (w : World) : (∃ i, (typeInfo t).run P w = .ok i w) ∨ ∃ h, (typeInfo t).run P w = .halt h w := by
  unfold typeInfo
  simp only [Sem.run_bind, run_program, Result.andThen_ok]
  cases P.info? t
  · exact .inr ⟨_, rfl⟩
  · exact .inl ⟨_, rfl⟩
theorem underlying_ends (t : TypeId) (w : World) : (∃ i, (underlying t).run P w = .ok i w) ∨ ∃ h, (underlying t).run P w = .halt h w := by
  unfold underlying
  simp only [Sem.run_bind, run_program, Result.andThen_ok]
  cases P.underlying t
  · exact .inr ⟨_, rfl⟩
  · exact .inl ⟨_, rfl⟩
theorem pr_sizeOf (t : TypeId) (w : World) : (Go.sizeOf t).run (prunedOf P keep) w = (Go.sizeOf t).run P w := by
  unfold Go.sizeOf
  simp only [Sem.run_bind, pr_typeInfo]
  rcases typeInfo_ends (P := P) t w with ⟨i, h⟩ | ⟨h', h⟩
  · simp only [h, Result.andThen_ok, Sem.run_pure]
  · simp only [h, Result.andThen_halt]
theorem pr_zeroValue (t : TypeId) (w : World) : (zeroValue t).run (prunedOf P keep) w = (zeroValue t).run P w := by
  unfold zeroValue
  simp only [Sem.run_bind, pr_typeInfo]
  rcases typeInfo_ends (P := P) t w with ⟨i, h⟩ | ⟨h', h⟩
  · simp only [h, Result.andThen_ok]
    cases i.zero <;> simp only [Sem.run_pure, run_unsupported]
  · simp only [h, Result.andThen_halt]
theorem pr_isAgg (t : TypeId) (w : World) : (isAgg t).run (prunedOf P keep) w = (isAgg t).run P w := by
  unfold isAgg
  simp only [Sem.run_bind, pr_underlying]
  rcases underlying_ends (P := P) t w with ⟨i, h⟩ | ⟨h', h⟩
  · simp only [h, Result.andThen_ok]
    cases i <;> simp only [Sem.run_pure]
  · simp only [h, Result.andThen_halt]
theorem pr_func {f : Nat} {fn : Func} (hk : keep f = true) (h : P.funcs[f]? = some fn) : (prunedOf P keep).funcs[f]? = some fn := by rw [prunedOf_at, h]; simp [hk]
theorem pr_bears {f : FuncId} {B : Func} (hk : keep f = true) (h : Bears P f B) : Bears (prunedOf P keep) f B := by
  obtain ⟨nm, h1, h2⟩ := h
  exact ⟨nm, h1, pr_func hk h2⟩
end
end Go.Proofs.YtmmjlngbiilagaaGreatDoor

/-
  The shelf's sort at a pruned program.
-/
namespace Go.Proofs.YtmmjlngbiilagaaGreatDoor
open Go Go.Conc Go.Shelf Go.RowKit Go.Lib Go.Sort

section
variable {P : Program} {keep : Nat → Bool}
theorem pr_sort {ρ : Ren} (hk : ∀ n ∈ [6, 14, 15, 20, 21, 22, 23, 24, 25, 26, 27, 28, 29, 46, 47, 48, 49, 50, 57], keep (ρ.f n) = true) (h : SlLaysF0.n6 P ρ) : SlLaysF0.n6 (prunedOf P keep) ρ where
  mixed := (congrArg (fun T : Tables => T.follows Departure.mixedOrders) (pr_tables (P := P) (keep := keep))).trans h.mixed
  f6 := pr_bears (hk _ (by simp)) h.f6
  f14 := pr_bears (hk _ (by simp)) h.f14
  f15 := pr_func (hk _ (by simp)) h.f15
  f20 := pr_bears (hk _ (by simp)) h.f20
  f21 := pr_bears (hk _ (by simp)) h.f21
  f22 := pr_bears (hk _ (by simp)) h.f22
  f23 := pr_bears (hk _ (by simp)) h.f23
  f24 := pr_bears (hk _ (by simp)) h.f24
  f25 := pr_bears (hk _ (by simp)) h.f25
  f26 := pr_bears (hk _ (by simp)) h.f26
  f27 := pr_bears (hk _ (by simp)) h.f27
  f28 := pr_func (hk _ (by simp)) h.f28
  f29 := pr_func (hk _ (by simp)) h.f29
  f46 := pr_bears (hk _ (by simp)) h.f46
  f47 := pr_func (hk _ (by simp)) h.f47
  f48 := pr_func (hk _ (by simp)) h.f48
  f49 := pr_bears (hk _ (by simp)) h.f49
  f50 := pr_bears (hk _ (by simp)) h.f50
  f57 := pr_bears (hk _ (by simp)) h.f57
  t0 := (pr_und _).trans h.t0
  a0 := fun w => (pr_isAgg ..).trans (h.a0 w)
  z0 := fun w => (pr_sizeOf ..).trans (h.z0 w)
  v0 := fun w => (pr_zeroValue ..).trans (h.v0 w)
  t3 := (pr_und _).trans h.t3
  a3 := fun w => (pr_isAgg ..).trans (h.a3 w)
  z3 := fun w => (pr_sizeOf ..).trans (h.z3 w)
  v3 := fun w => (pr_zeroValue ..).trans (h.v3 w)
  t4 := (pr_und _).trans h.t4
  a4 := fun w => (pr_isAgg ..).trans (h.a4 w)
  z4 := fun w => (pr_sizeOf ..).trans (h.z4 w)
  v4 := fun w => (pr_zeroValue ..).trans (h.v4 w)
  t5 := (pr_und _).trans h.t5
  a5 := fun w => (pr_isAgg ..).trans (h.a5 w)
  z5 := fun w => (pr_sizeOf ..).trans (h.z5 w)
  v5 := fun w => (pr_zeroValue ..).trans (h.v5 w)
  t9 := (pr_und _).trans h.t9
  a9 := fun w => (pr_isAgg ..).trans (h.a9 w)
  z9 := fun w => (pr_sizeOf ..).trans (h.z9 w)
  v9 := fun w => (pr_zeroValue ..).trans (h.v9 w)
  t22 := (pr_und _).trans h.t22
  a22 := fun w => (pr_isAgg ..).trans (h.a22 w)
  z22 := fun w => (pr_sizeOf ..).trans (h.z22 w)
  v22 := fun w => (pr_zeroValue ..).trans (h.v22 w)
  t25 := (pr_und _).trans h.t25
  a25 := fun w => (pr_isAgg ..).trans (h.a25 w)
  z25 := fun w => (pr_sizeOf ..).trans (h.z25 w)
  v25 := fun w => (pr_zeroValue ..).trans (h.v25 w)
  t39 := (pr_und _).trans h.t39
  a39 := fun w => (pr_isAgg ..).trans (h.a39 w)
  z39 := fun w => (pr_sizeOf ..).trans (h.z39 w)
  v39 := fun w => (pr_zeroValue ..).trans (h.v39 w)
  t45 := (pr_und _).trans h.t45
  a45 := fun w => (pr_isAgg ..).trans (h.a45 w)
  z45 := fun w => (pr_sizeOf ..).trans (h.z45 w)
  v45 := fun w => (pr_zeroValue ..).trans (h.v45 w)
  t46 := (pr_und _).trans h.t46
  a46 := fun w => (pr_isAgg ..).trans (h.a46 w)
  z46 := fun w => (pr_sizeOf ..).trans (h.z46 w)
  v46 := fun w => (pr_zeroValue ..).trans (h.v46 w)
  t50 := (pr_und _).trans h.t50
  a50 := fun w => (pr_isAgg ..).trans (h.a50 w)
  z50 := fun w => (pr_sizeOf ..).trans (h.z50 w)
  v50 := fun w => (pr_zeroValue ..).trans (h.v50 w)
  t53 := (pr_und _).trans h.t53
  a53 := fun w => (pr_isAgg ..).trans (h.a53 w)
  z53 := fun w => (pr_sizeOf ..).trans (h.z53 w)
  v53 := fun w => (pr_zeroValue ..).trans (h.v53 w)
  t55 := (pr_und _).trans h.t55
  a55 := fun w => (pr_isAgg ..).trans (h.a55 w)
  z55 := fun w => (pr_sizeOf ..).trans (h.z55 w)
  v55 := fun w => (pr_zeroValue ..).trans (h.v55 w)
  t66 := (pr_und _).trans h.t66
  a66 := fun w => (pr_isAgg ..).trans (h.a66 w)
  z66 := fun w => (pr_sizeOf ..).trans (h.z66 w)
  v66 := fun w => (pr_zeroValue ..).trans (h.v66 w)
  t70 := (pr_und _).trans h.t70
  a70 := fun w => (pr_isAgg ..).trans (h.a70 w)
  z70 := fun w => (pr_sizeOf ..).trans (h.z70 w)
  v70 := fun w => (pr_zeroValue ..).trans (h.v70 w)
  t76 := (pr_und _).trans h.t76
  a76 := fun w => (pr_isAgg ..).trans (h.a76 w)
  z76 := fun w => (pr_sizeOf ..).trans (h.z76 w)
  v76 := fun w => (pr_zeroValue ..).trans (h.v76 w)
  t77 := (pr_und _).trans h.t77
  a77 := fun w => (pr_isAgg ..).trans (h.a77 w)
  z77 := fun w => (pr_sizeOf ..).trans (h.z77 w)
  v77 := fun w => (pr_zeroValue ..).trans (h.v77 w)
end
def sortT_ren : Go.Shelf.Ren := ⟨fun | 6 => 31 | 15 => 54 | 14 => 53 | 28 => 79 | 29 => 80 | 20 => 71 | 21 => 72 | 22 => 73 | 23 => 74 | 24 => 75 | 25 => 76 | 26 => 77 | 27 => 78 | 46 => 94 | 47 => 95 | 48 => 96 | 49 => 97 | 50 => 98 | 57 => 109 | n => n, fun | 22 => 28 | 24 => 50 | 25 => 95 | 3 => 3 | 39 => 122 | 0 => 0 | 53 => 89 | 55 => 86 | 4 => 4 | 46 => 148 | 45 => 147 | 50 => 152 | 5 => 5 | 9 => 9 | 66 => 169 | 70 => 172 | 76 => 188 | 77 => 136 | n => n, fun | n => n⟩
theorem sortT : Go.Proofs.SlLaysF0.n6 Tryz.prog sortT_ren := {
  mixed := by kernel_rfl
  f6 := ⟨Tryz.f31.name, by decide, Tryz.func31.trans (congrArg some (by kernel_rfl))⟩
  f14 := ⟨Tryz.f53.name, by decide, Tryz.func53.trans (congrArg some (by kernel_rfl))⟩
  f15 := Tryz.func54.trans (congrArg some (by kernel_rfl))
  f20 := ⟨Tryz.f71.name, by decide, Tryz.func71.trans (congrArg some (by kernel_rfl))⟩
  f21 := ⟨Tryz.f72.name, by decide, Tryz.func72.trans (congrArg some (by kernel_rfl))⟩
  f22 := ⟨Tryz.f73.name, by decide, Tryz.func73.trans (congrArg some (by kernel_rfl))⟩
  f23 := ⟨Tryz.f74.name, by decide, Tryz.func74.trans (congrArg some (by kernel_rfl))⟩
  f24 := ⟨Tryz.f75.name, by decide, Tryz.func75.trans (congrArg some (by kernel_rfl))⟩
  f25 := ⟨Tryz.f76.name, by decide, Tryz.func76.trans (congrArg some (by kernel_rfl))⟩
  f26 := ⟨Tryz.f77.name, by decide, Tryz.func77.trans (congrArg some (by kernel_rfl))⟩
  f27 := ⟨Tryz.f78.name, by decide, Tryz.func78.trans (congrArg some (by kernel_rfl))⟩
  f28 := Tryz.func79.trans (congrArg some (by kernel_rfl))
  f29 := Tryz.func80.trans (congrArg some (by kernel_rfl))
  f46 := ⟨Tryz.f94.name, by decide, Tryz.func94.trans (congrArg some (by kernel_rfl))⟩
  f47 := Tryz.func95.trans (congrArg some (by kernel_rfl))
  f48 := Tryz.func96.trans (congrArg some (by kernel_rfl))
  f49 := ⟨Tryz.f97.name, by decide, Tryz.func97.trans (congrArg some (by kernel_rfl))⟩
  f50 := ⟨Tryz.f98.name, by decide, Tryz.func98.trans (congrArg some (by kernel_rfl))⟩
  f57 := ⟨Tryz.f109.name, by decide, Tryz.func109.trans (congrArg some (by kernel_rfl))⟩
  t0 := Tryz.underlying0
  a0 := Tryz.isAgg0
  z0 := Tryz.sizeOf0
  v0 := Tryz.zeroValue0
  t3 := Tryz.underlying3
  a3 := Tryz.isAgg3
  z3 := Tryz.sizeOf3
  v3 := Tryz.zeroValue3
  t4 := Tryz.underlying4
  a4 := Tryz.isAgg4
  z4 := Tryz.sizeOf4
  v4 := Tryz.zeroValue4
  t5 := Tryz.underlying5
  a5 := Tryz.isAgg5
  z5 := Tryz.sizeOf5
  v5 := Tryz.zeroValue5
  t9 := Tryz.underlying9
  a9 := Tryz.isAgg9
  z9 := Tryz.sizeOf9
  v9 := Tryz.zeroValue9
  t22 := Tryz.underlying28
  a22 := Tryz.isAgg28
  z22 := Tryz.sizeOf28
  v22 := Tryz.zeroValue28
  t25 := Tryz.underlying95
  a25 := Tryz.isAgg95
  z25 := Tryz.sizeOf95
  v25 := Tryz.zeroValue95
  t39 := Tryz.underlying122
  a39 := Tryz.isAgg122
  z39 := Tryz.sizeOf122
  v39 := Tryz.zeroValue122
  t45 := Tryz.underlying147
  a45 := Tryz.isAgg147
  z45 := Tryz.sizeOf147
  v45 := Tryz.zeroValue147
  t46 := Tryz.underlying148
  a46 := Tryz.isAgg148
  z46 := Tryz.sizeOf148
  v46 := Tryz.zeroValue148
  t50 := Tryz.underlying152
  a50 := Tryz.isAgg152
  z50 := Tryz.sizeOf152
  v50 := Tryz.zeroValue152
  t53 := Tryz.underlying89
  a53 := Tryz.isAgg89
  z53 := Tryz.sizeOf89
  v53 := Tryz.zeroValue89
  t55 := Tryz.underlying86
  a55 := Tryz.isAgg86
  z55 := Tryz.sizeOf86
  v55 := Tryz.zeroValue86
  t66 := Tryz.underlying169
  a66 := Tryz.isAgg169
  z66 := Tryz.sizeOf169
  v66 := Tryz.zeroValue169
  t70 := Tryz.underlying172
  a70 := Tryz.isAgg172
  z70 := Tryz.sizeOf172
  v70 := Tryz.zeroValue172
  t76 := Tryz.underlying188
  a76 := Tryz.isAgg188
  z76 := Tryz.sizeOf188
  v76 := Tryz.zeroValue188
  t77 := Tryz.underlying136
  a77 := Tryz.isAgg136
  z77 := Tryz.sizeOf136
  v77 := Tryz.zeroValue136 }
theorem sortKept : [6, 14, 15, 20, 21, 22, 23, 24, 25, 26, 27, 28, 29, 46, 47, 48, 49, 50, 57].all (fun n => keptS (sortT_ren.f n)) = true := by kernel_rfl
theorem sortV : SlLaysF0.n6 (prunedOf Tryz.prog keptS) sortT_ren := pr_sort (fun n hn => List.all_eq_true.1 sortKept n hn) sortT
end Go.Proofs.YtmmjlngbiilagaaGreatDoor
