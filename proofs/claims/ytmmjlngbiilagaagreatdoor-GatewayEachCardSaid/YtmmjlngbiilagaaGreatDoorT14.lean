/-
  THE WALK OF GOROUTINE 0 IN THE EMPTIED WORLD: what is shown of a pruned program by itself, step by step, makes what is left of the true run well.
-/
import Derived.Test.YtmmjlngbiilagaaGreatDoorT13
import Derived.Conc.CompanyDraw

namespace Go.Proofs.YtmmjlngbiilagaaGreatDoor
open Go Go.Conc

section
/-- The good blocks; the blocks of the beginning that are foreign and yet are read (AR); the world of the beginning. -/
structure GB where
  P : Nat → Prop
  AR : Nat → Prop
  W0 : World
instance : CoeFun GB fun _ => Nat → Prop := ⟨GB.P⟩
/-- What is shunned: what is foreign and is not read. -/
def Fm (Gd : GB) (F : Nat → Prop) : Nat → Prop := fun b => F b ∧ ¬ Gd.AR b
theorem Fm.mono {Gd : GB} {F F' : Nat → Prop} (h : ∀ b, F b → F' b) : ∀ b, Fm Gd F b → Fm Gd F' b := fun b hb => ⟨h b hb.1, hb.2⟩
theorem evL_sub {S S' : Loc → Prop} (h : ∀ l, S' l → S l) {n : Nat} {e : Event} (he : Go.Conc.EvL S n e) : Go.Conc.EvL S' n e := by
  exact ⟨fun x hx hs => he.1 x hx (h _ hs), he.2⟩
theorem SF_fm {Gd : GB} {F : Nat → Prop} : ∀ l, SF (Fm Gd F) l → SF F l := fun l ⟨b, hb, h⟩ => ⟨b, hb.1, h⟩
/-- Addresses lead to good blocks. -/
abbrev PFg (Gd : GB) (v : Value) : Prop := False ∨ PF Gd.P v
variable (V P : Program) (Gd : GB)
/-- The bridge's terms for goroutine 0. -/
def cfgV (B : Nat) : Cfg := ⟨V, P, true, B, Gd.P, fun _ => false, fun b _ o => Gd.W0.heap[b]? = some o⟩
/-- What is asked at the end; the blocks that are foreign from the beginning, and the true world of the beginning. -/
structure PostK where
  post : Value → World → Prop
  F₀ : Nat → Prop
  W0 : World
/-- What was foreign from the beginning is foreign, and lies as it lay. -/
structure Kp (Gd : GB) (Post : PostK) (F : Nat → Prop) (w : World) : Prop where
  ar : ∀ b, Gd.AR b → w.heap[b]? = Gd.W0.heap[b]?
  arF : ∀ b, Gd.AR b → F b
  tape : w.tape = Post.W0.tape
  old : ∀ b, Post.F₀ b → F b
  heap : ∀ b, Post.F₀ b → w.heap[b]? = Post.W0.heap[b]?
theorem Kp.rel {Gd : GB} {Post : PostK} {F : Nat → Prop} {w w₁ : World} (h : Kp Gd Post F w) (r : AtRel w w₁) : Kp Gd Post F w₁ := by
  obtain ⟨d, rfl⟩ := r
  exact ⟨h.ar, h.arF, h.tape, h.old, h.heap⟩
theorem Kp.kept {Gd : GB} {Post : PostK} {F F' : Nat → Prop} {w w' : World} (h : Kp Gd Post F w) (ht : w'.tape = w.tape) (hF : ∀ b, F b → F' b) (hk : ∀ b, F b → w'.heap[b]? = w.heap[b]?) : Kp Gd Post F' w' :=
  ⟨fun b hb => (hk b (h.arF b hb)).trans (h.ar b hb), fun b hb => hF b (h.arF b hb), ht.trans h.tape, fun b hb => hF b (h.old b hb), fun b hb => (hk b (h.old b hb)).trans (h.heap b hb)⟩
/-- In whatever true world. -/
def FineV (Post : PostK) (F : Nat → Prop) (a : Goroutine) (v : World) : Prop := ∀ (B : Nat) (w : World), (∀ b, B ≤ b → Gd b) → Pois (cfgV V P Gd B) F v w → Kp Gd Post F w → Fine P Post.post (Fm Gd F) a w
/-- Where the walk goes on. -/
def AftV (Post : PostK) (b : Frame) (k : List Item) (cs : List Frame) (F : Nat → Prop) : Exit → Act → World → Prop
  | .normal, a, v => FineV V P Gd Post F (G (b.at a k) cs) v
  | .exit id, a, v => ∃ k', exitTo id k = some k' ∧ FineV V P Gd Post F (G (b.at a k') cs) v
  | .ret, a, v => ∀ todo, FineV V P Gd Post F (G { b.at a todo with mode := .returning } cs) v
  | _, _, _ => False
abbrev QV := (Nat → Prop) → Exit → Act → World → Prop
/-- ████ THE JUDGEMENT. ████ -/
def WpV (fn : FuncId) (c : Code) (Q : QV) (F : Nat → Prop) (a : Act) (v : World) : Prop :=
  ∀ (Post : PostK) (b : Frame) (k : List Item) (cs : List Frame), b.fn = fn → b.kind = .normal → (∀ x ∈ a.tmps, PFg Gd x) → (∀ F' e a' v', (∀ x ∈ a'.tmps, PFg Gd x) → Q F' e a' v' → AftV V P Gd Post b k cs F' e a' v') → FineV V P Gd Post F (G (b.at a (.code c :: k)) cs) v
def OpsV (fn : FuncId) (ops : Array Oper) (todo : List Nat) (Q : QV) (F : Nat → Prop) (a : Act) (v : World) : Prop :=
  ∀ (Post : PostK) (b : Frame) (k : List Item) (cs : List Frame), b.fn = fn → b.kind = .normal → (∀ x ∈ a.tmps, PFg Gd x) → (∀ F' e a' v', (∀ x ∈ a'.tmps, PFg Gd x) → Q F' e a' v' → AftV V P Gd Post b k cs F' e a' v') → FineV V P Gd Post F (G (b.at a (.inRegion ops todo :: k)) cs) v
/-- A call's contract. -/
def CallsV (f : FuncId) (args : Array Value) (F : Nat → Prop) (v : World) (R : (Nat → Prop) → Value → World → Prop) : Prop :=
  ∀ (Post : PostK) (c : Frame) (cs : List Frame), (∀ x ∈ args, PFg Gd x) → (∀ F' z v', PFg Gd z → R F' z v' → FineV V P Gd Post F' (G (c.finish z) cs) v') → FineV V P Gd Post F (G (Frame.enter P f args .normal) (c :: cs)) v
end
def ThenV (K : (Nat → Prop) → Act → World → Prop) (Q : QV) : QV
  | F, .normal, a, v => K F a v
  | F, e, a, v => Q F e a v
def InBlockV (id : Nat) (Q : QV) : QV
  | F, .normal, a, v => Q F .normal a v
  | F, .exit id', a, v => if id' = id then Q F .normal a v else Q F (.exit id') a v
  | F, e, a, v => Q F e a v

section
variable {V P : Program} {Gd : GB} {Post : PostK} {F : Nat → Prop} {g g' : Goroutine} {v : World} {fn : FuncId} {Q Q' : QV} {a : Act}

theorem FineV.tp {τ : Nat → Question → Nat} {p : Nat} (h : FineV V P Gd Post F g v) : FineV V P Gd Post F g (Proofs.YtmmjlngbiilagaaGreatDoor.tp v τ p) := fun B w hn hw hkp => h B w hn hw.untp hkp
theorem FineV.untp {τ : Nat → Question → Nat} {p : Nat} (h : FineV V P Gd Post F g (Proofs.YtmmjlngbiilagaaGreatDoor.tp v τ p)) : FineV V P Gd Post F g v := fun B w hn hw hkp => h B w hn (hw.tp τ p) hkp
theorem FineV.heap {u : World} (h : FineV V P Gd Post F g v) (h1 : u.heap = v.heap) (h2 : u.os = v.os) (h3 : u.output = v.output) : FineV V P Gd Post F g u := fun B w hn hw hkp => h B w hn (by
  have := tp_heap (v := u) (u := v) h1 h2 h3
  rw [this]
  exact hw.tp _ _) hkp

theorem pf_put {dst : Option Tmp} {z : Value} (hp : ∀ x ∈ a.tmps, PFg Gd x) (hz : PFg Gd z) : ∀ x ∈ (a.put dst z).tmps, PFg Gd x := fun x hx => by
  cases dst with
  | none => exact hp x hx
  | some t =>
    simp only [Act.put] at hx
    rcases mem_setIf hx with rfl | hx
    · exact hz
    · exact hp x hx
/-- A step that looks at no world. -/
theorem FineV.still (hs : g.status = .running) (h : ∀ w, stepG P true g w = .go g' w #[]) (hF : FineV V P Gd Post F g' v) : FineV V P Gd Post F g v := fun B w hn hw hkp =>
  Fine.step hs fun w₁ h₁ => ⟨g', w₁, #[], h w₁, Nat.le_refl _, by simp, hF B w₁ hn (hw.rel h₁) (hkp.rel h₁)⟩

theorem AftV.push {b : Frame} {x : Item} {k : List Item} {cs : List Frame} {e : Exit} {v : World} (hx : x.plain = true) (he : e ≠ .normal) (h : AftV V P Gd Post b k cs F e a v) : AftV V P Gd Post b (x :: k) cs F e a v := by
  cases e with
  | normal => exact absurd rfl he
  | exit id => obtain ⟨k', hk, hg⟩ := h; exact ⟨k', by cases x <;> simp_all [exitTo, Item.plain], hg⟩
  | ret => exact h
  | goto l => exact h
  | panic ch => exact h
  | outgrown => exact h

theorem wpV_mono {c : Code} (h : WpV V P Gd fn c Q F a v) (hq : ∀ F' e a' v', Q F' e a' v' → Q' F' e a' v') : WpV V P Gd fn c Q' F a v :=
  fun Post b k cs hb hk hp hc => h Post b k cs hb hk hp fun F' e a' v' hp' q => hc F' e a' v' hp' (hq F' e a' v' q)
theorem opsV_mono {ops : Array Oper} {todo : List Nat} (h : OpsV V P Gd fn ops todo Q F a v) (hq : ∀ F' e a' v', Q F' e a' v' → Q' F' e a' v') : OpsV V P Gd fn ops todo Q' F a v :=
  fun Post b k cs hb hk hp hc => h Post b k cs hb hk hp fun F' e a' v' hp' q => hc F' e a' v' hp' (hq F' e a' v' q)
theorem wpV_tp {c : Code} {τ : Nat → Question → Nat} {p : Nat} (h : WpV V P Gd fn c Q F a v) : WpV V P Gd fn c Q F a (tp v τ p) := fun Post b k cs hb hk hp hc => (h Post b k cs hb hk hp hc).tp
theorem opsV_tp {ops : Array Oper} {todo : List Nat} {τ : Nat → Question → Nat} {p : Nat} (h : OpsV V P Gd fn ops todo Q F a v) : OpsV V P Gd fn ops todo Q F a (tp v τ p) := fun Post b k cs hb hk hp hc => (h Post b k cs hb hk hp hc).tp

theorem wpV_skip (h : Q F .normal a v) : WpV V P Gd fn .skip Q F a v := fun Post b k cs _ _ hp hc => FineV.still rfl (fun _ => stepG_skip) (hc _ _ _ _ hp h)
theorem wpV_label {l : Nat} (h : Q F .normal a v) : WpV V P Gd fn (.label l) Q F a v := fun Post b k cs _ _ hp hc => FineV.still rfl (fun _ => stepG_label) (hc _ _ _ _ hp h)
theorem wpV_ret (h : Q F .ret a v) : WpV V P Gd fn .ret Q F a v := fun Post b k cs _ _ hp hc => FineV.still rfl (fun _ => stepG_ret') (hc _ _ _ _ hp h _)
theorem wpV_exit {id : Nat} (h : Q F (.exit id) a v) : WpV V P Gd fn (.exit id) Q F a v := fun Post b k cs _ _ hp hc => by
  obtain ⟨k', hk', hg⟩ := hc _ _ _ _ hp h
  exact FineV.still rfl (fun _ => stepG_exit hk') hg
theorem wpV_seq {x y : Code} (h : WpV V P Gd fn x (ThenV (fun F' a' v' => WpV V P Gd fn y Q F' a' v') Q) F a v) : WpV V P Gd fn (.seq x y) Q F a v := by
  intro Post b k cs hb hk hp hc
  refine FineV.still rfl (fun _ => stepG_seq) (h Post b (.code y :: k) cs hb hk hp fun F' e a' v' hp' q => ?_)
  cases e with
  | normal => exact q Post b k cs hb hk hp' hc
  | exit id => exact (hc _ _ _ _ hp' q).push rfl (by simp)
  | ret => exact (hc _ _ _ _ hp' q).push (x := .code y) rfl (by simp)
  | goto l => exact hc _ _ _ _ hp' q
  | panic ch => exact hc _ _ _ _ hp' q
  | outgrown => exact hc _ _ _ _ hp' q
theorem wpV_cond {c : Operand} {x y : Code} {t : Bool} (hc : a.eval c = .bool t) (h : WpV V P Gd fn (if t then x else y) Q F a v) : WpV V P Gd fn (.cond c x y) Q F a v :=
  fun Post b k cs hb hk hp hq => FineV.still rfl (fun _ => stepG_cond hc) (h Post b k cs hb hk hp hq)
theorem wpV_block {id : Nat} {c : Code} (h : WpV V P Gd fn c (InBlockV id Q) F a v) : WpV V P Gd fn (.block id c) Q F a v := by
  intro Post b k cs hb hk hp hc
  refine FineV.still rfl (fun _ => stepG_block) (h Post b (.inBlock id :: k) cs hb hk hp fun F' e a' v' hp' q => ?_)
  cases e with
  | normal => exact FineV.still rfl (fun _ => stepG_inBlock) (hc _ _ _ _ hp' q)
  | exit id' =>
    by_cases hid : id' = id
    · simp only [InBlockV, hid, if_true] at q
      exact ⟨k, by simp [exitTo, hid], hc _ _ _ _ hp' q⟩
    · simp only [InBlockV, hid, if_false] at q
      obtain ⟨k', hk', hg⟩ := hc _ _ _ _ hp' q
      have : (id == id') = false := by simp; exact fun h => hid h.symm
      exact ⟨k', by simp [exitTo, this, hk'], hg⟩
  | ret => exact fun todo => hc _ _ _ _ hp' q todo
  | goto l => exact hc _ _ _ _ hp' q
  | panic ch => exact hc _ _ _ _ hp' q
  | outgrown => exact hc _ _ _ _ hp' q
/-- A loop: an invariant, a measure. -/
theorem wpV_loop {c : Code} (I : Act → World → Prop) (μ : Act → World → Nat) (h₀ : I a v) (round : ∀ a v, I a v → WpV V P Gd fn c (ThenV (fun F' a' v' => F' = F ∧ I a' v' ∧ μ a' v' < μ a v) Q) F a v) : WpV V P Gd fn (.loop c) Q F a v := by
  intro Post b k cs hb hk hp hc
  have key : ∀ N a v, μ a v ≤ N → I a v → (∀ x ∈ a.tmps, PFg Gd x) → FineV V P Gd Post F (G (b.at a (.code c :: .inLoop c :: k)) cs) v := by
    intro N
    induction N with
    | zero =>
      intro a v hμ hI hp
      refine round a v hI Post b (.inLoop c :: k) cs hb hk hp fun F' e a' v' hp' q => ?_
      cases e with
      | normal => exact absurd q.2.2 (by omega)
      | exit id => exact (hc _ _ _ _ hp' q).push rfl (by simp)
      | ret => exact (hc _ _ _ _ hp' q).push (x := .inLoop c) rfl (by simp)
      | goto l => exact hc _ _ _ _ hp' q
      | panic ch => exact hc _ _ _ _ hp' q
      | outgrown => exact hc _ _ _ _ hp' q
    | succ N ih =>
      intro a v hμ hI hp
      refine round a v hI Post b (.inLoop c :: k) cs hb hk hp fun F' e a' v' hp' q => ?_
      cases e with
      | normal =>
        obtain ⟨rfl, q1, q2⟩ := q
        exact FineV.still rfl (fun _ => stepG_inLoop) (ih a' v' (by omega) q1 hp')
      | exit id => exact (hc _ _ _ _ hp' q).push rfl (by simp)
      | ret => exact (hc _ _ _ _ hp' q).push (x := .inLoop c) rfl (by simp)
      | goto l => exact hc _ _ _ _ hp' q
      | panic ch => exact hc _ _ _ _ hp' q
      | outgrown => exact hc _ _ _ _ hp' q
  exact FineV.still rfl (fun _ => stepG_loop) (key _ a v (Nat.le_refl _) h₀ hp)
theorem wpV_region {id : Nat} {ops : Array Oper} (h : OpsV V P Gd fn ops (List.range ops.size) Q F a v) : WpV V P Gd fn (.region id ops false) Q F a v :=
  fun Post b k cs hb hk hp hc => FineV.still rfl (fun _ => stepG_region) (h Post b k cs hb hk hp hc)
theorem opsV_nil {ops : Array Oper} (h : Q F .normal a v) : OpsV V P Gd fn ops [] Q F a v := fun Post b k cs _ _ hp hc => FineV.still rfl (fun _ => stepG_region_end) (hc _ _ _ _ hp h)
theorem opsV_unwanted {ops : Array Oper} {i : Nat} {rest : List Nat} {o : Oper} (ho : ops[i]? = some o) (hw : Region.wanted o (yielded ops a.tmps) = false) (h : OpsV V P Gd fn ops rest Q F (a.put o.dst undef) v) : OpsV V P Gd fn ops (i :: rest) Q F a v :=
  fun Post b k cs hb hk hp hc => FineV.still rfl (fun _ => stepG_unwanted ho hw) (h Post b k cs hb hk (pf_put hp (.inr (.tuple fun x hx => by simp at hx))) hc)
theorem wpV_region_draw {id : Nat} {ops : Array Oper} (h : ∀ t, OpsV V P Gd fn ops (Region.schedule (P.follows .mixedOrders) ops t) Q F a v) : WpV V P Gd fn (.region id ops true) Q F a v :=
  fun Post b k cs hb hk hp hc B w hn hw hkp => Fine.step rfl fun w₁ h₁ => ⟨_, _, _, stepG_region_draw, Nat.le_refl _, by simp, h _ Post b k cs hb hk hp hc B _ hn (by
    obtain ⟨d, rfl⟩ := h₁
    exact ⟨hw.size, hw.os, hw.output, hw.same, hw.odd, hw.foreign, hw.frozen, hw.tame, hw.row, hw.own, hw.fb, hw.disj, hw.sz⟩) (by obtain ⟨d, rfl⟩ := h₁; exact ⟨hkp.ar, hkp.arF, hkp.tape, hkp.old, hkp.heap⟩)⟩

/-- What a tame run lists is no harm. -/
theorem evT_evL {B n : Nat} {e : Event} (h : EvT (cfgV V P Gd B) F n e) (hx : ∀ f, e.loc ≠ .mark (.extern f)) : Go.Conc.EvL (SF F) n e := by
  obtain ⟨loc, wr, sy⟩ := e
  unfold EvT at h
  cases loc with
  | cell ad =>
    obtain ⟨h1, h2, h3⟩ := h
    refine ⟨fun x hx hs => ?_, by simp, by simp, h1⟩
    simp only [ofEvent_cell0, MemAct.touch?, Option.some.injEq] at hx
    subst hx
    obtain ⟨b, hb, hb'⟩ := hs
    simp only [blk, Option.some.injEq] at hb'
    exact absurd (hb' ▸ hb) h2
  | obj r =>
    obtain ⟨h1, h2, _⟩ := h
    refine ⟨fun x hx hs => ?_, by simp, by simp, ?_⟩
    · obtain ⟨b, hb, hb'⟩ := hs
      cases wr <;> cases sy <;> simp only [MemAct.ofEvent, MemAct.touch?, Option.some.injEq, reduceCtorEq] at hx
      all_goals
        subst hx
        simp only [blk, Option.some.injEq] at hb'
        exact absurd (hb' ▸ hb) h2
    · cases wr <;> cases sy <;> exact h1
  | mark m =>
    rcases h with ⟨_, rfl⟩ | ⟨f, rfl⟩
    · refine ⟨fun x hx => ?_, by simp, by simp, ?_⟩
      · cases wr <;> cases sy <;> simp [MemAct.ofEvent, MemAct.touch?] at hx
      · cases wr <;> cases sy <;> exact trivial
    · exact absurd rfl (hx f)
  | output => exact h.elim
  | goroutines => exact h.elim
end
end Go.Proofs.YtmmjlngbiilagaaGreatDoor

/-
  OPERATIONS AND CALLS in goroutine 0's walk: a tame operation by what it does alone; a call by its body's walk, or by a contract that was shown alone.
-/
namespace Go.Proofs.YtmmjlngbiilagaaGreatDoor
open Go Go.Conc

section
variable {V P : Program} {Gd : GB} {Post : PostK} {F : Nat → Prop} {g g' : Goroutine} {v : World} {fn : FuncId} {Q : QV} {a : Act} {ops : Array Oper} {i : Nat} {rest : List Nat} {o : Oper}

theorem evOk_of {K : Cfg} {a : Act} (hp : ∀ x ∈ a.tmps, PFv K x) : EvOk K a.eval := ⟨fun _ => rfl, fun t => by
  show PFv K (a.tmps.getD t undef)
  rw [Array.getD_eq_getD_getElem?]
  cases ht : a.tmps[t]? with
  | none => exact .undef K
  | some x => exact hp x (Array.mem_iff_getElem?.2 ⟨t, ht⟩), fun _ => rfl, fun _ => rfl⟩

/-- ████ An operation that yields a value, or nothing. ████ -/
theorem opsV_op (ho : ops[i]? = some o) (hw : Region.wanted o (yielded ops a.tmps) = true) (hok : ∀ B, (∀ b, B ≤ b → Gd b) → OpOk (cfgV V P Gd B) o)
    (h : ∀ τ p, uponK o a (fun a' v' => OpsV V P Gd fn ops rest Q F a' v') ((execOp a.eval o).run V (tp v τ p))) : OpsV V P Gd fn ops (i :: rest) Q F a v := by
  intro Post b k cs hb hk ha hc B w hn hpw hkp
  refine Fine.step rfl fun w₁ h₁ => ?_
  have hkp₁ := hkp.rel h₁
  have hp := (hpw.rel h₁).tp w₁.tape w₁.drawn
  have hs := hok B hn a.eval (evOk_of ha)
  have hne : b.kind ≠ .early := by rw [hk]; simp
  rcases hrr : (execOp a.eval o).runT V (tp v w₁.tape w₁.drawn) #[] with ⟨r, es⟩
  have hr1 : (execOp a.eval o).run V (tp v w₁.tape w₁.drawn) = r := by simpa using congrArg Prod.fst hrr
  have h2 := h w₁.tape w₁.drawn
  rw [hr1] at h2
  cases r with
  | halt hh u => exact h2.elim
  | ok nx u =>
    obtain ⟨w', e1, eA, e3⟩ := tame_run hs (tp v w₁.tape w₁.drawn) w₁ #[] _ es hp hrr trivial (fun _ _ => rfl)
    have e11 : (execOp a.eval o).run P w₁ = .ok nx w' := by have := congrArg Prod.fst e1; rw [Sem.runT_eq] at this; exact this
    have e12 : (execOp a.eval o).events P w₁ #[] = es := by have := congrArg Prod.snd e1; rw [Sem.runT_eq] at this; exact this
    have hsz : w₁.heap.size ≤ w'.heap.size := by rw [← hp.size, ← e3.pois.size]; exact e3.size
    have hev : ∀ e ∈ listed P b.fn a o w₁, Go.Conc.EvL (SF (Fm Gd F)) w'.heap.size e := fun e he => by
      have h3 := mem_listed he
      rw [e12] at h3
      rcases e3.ev e h3 with h4 | h4
      · simp at h4
      · have := e3.pois.size
        rw [← this]
        exact evL_sub SF_fm <| evT_evL h4 (seen_extern he)
    have hkp' : Kp Gd Post F w' := hkp₁.kept e3.wt.1 (fun _ h => h) e3.keep
    cases nx with
    | value x => exact ⟨_, w', _, stepG_value ho hw hne e11, hsz, hev, h2 Post b k cs hb hk (pf_put ha eA) hc B w' hn e3.pois hkp'⟩
    | skip => exact ⟨_, w', _, stepG_none ho hw hne e11, hsz, hev, h2 Post b k cs hb hk (pf_put ha (PFv.undef (cfgV V P Gd B))) hc B w' hn e3.pois hkp'⟩
    | _ => exact h2.elim

/-- ████ A call. ████ -/
theorem opsV_enter {f : FuncId} {args : Array Value} {R : (Nat → Prop) → Value → World → Prop} (ho : ops[i]? = some o) (hw : Region.wanted o (yielded ops a.tmps) = true)
    (hr : ∀ w, (execOp a.eval o).run P w = .ok (.enter f args) w ∧ (execOp a.eval o).events P w #[] = #[]) (hargs : (∀ x ∈ a.tmps, PFg Gd x) → ∀ x ∈ args, PFg Gd x) (hcall : CallsV V P Gd f args F v R)
    (hnext : ∀ F' z v', R F' z v' → OpsV V P Gd fn ops rest Q F' (a.put o.dst z) v') : OpsV V P Gd fn ops (i :: rest) Q F a v := by
  intro Post b k cs hb hk ha hc
  have hne : b.kind ≠ .early := by rw [hk]; simp
  have hfin : ∀ z, (b.at a (.inRegion ops (i :: rest) :: k)).finish z = b.at (a.put o.dst z) (.inRegion ops rest :: k) := fun z => by rw [Frame.finish_at, ho]; rfl
  refine FineV.still rfl (fun w => ?_) (hcall Post (b.at a (.inRegion ops (i :: rest) :: k)) cs (hargs ha) fun F' z v' hpz hz => ?_)
  · rw [stepG_enter ho hw hne (hr w).1]
    have : listed P b.fn a o w = #[] := by unfold listed; rw [(hr w).2]; exact seen_none P _
    rw [this]
  · rw [hfin]
    exact hnext F' z v' hz Post b k cs hb hk (pf_put ha hpz) hc
theorem run_callV {f : FuncId} {fc : Func} {c : Code} {x : Operand} {args : Array Operand} {ats : Array TypeId} {first captured : Array Value} (hop : o.op = .call { callee := .value x, args, argTypes := ats }) (hx : a.eval x = .func (.func f) first captured)
    (hf : P.funcs[f]? = some fc) (hn : (fc.name == "runtime.NumGoroutine") = false) (hb : fc.body = some c) (w : World) :
    (execOp a.eval o).run P w = .ok (.enter f (first ++ args.map a.eval ++ captured)) w ∧ (execOp a.eval o).events P w #[] = #[] := by
  have h1 : ¬ fc.name = "runtime.NumGoroutine" := by simpa using hn
  have h2 : ¬ fc.body = none := by simp [hb]
  constructor
  · unfold execOp
    simp [hop, resolve, Deferred.ofValue, invoke, callFunc, hf, h1, h2, hx]
  · unfold execOp
    simp [hop, resolve, Deferred.ofValue, invoke, callFunc, hf, h1, h2, hx]

/-- A contract by the body's walk. -/
theorem callsV_body {f : FuncId} {fc : Func} {c : Code} {args : Array Value} {R : (Nat → Prop) → Value → World → Prop} (hf : P.funcs[f]? = some fc) (hb : fc.body = some c) (hres : fc.results.all resB = true)
    (h : WpV V P Gd f c (fun F' e a' v' => (e = .normal ∨ e = .ret) ∧ a'.defers = [] ∧ ∃ z, ResultsC P fc a'.tmps z ∧ R F' z v') F { tmps := args ++ Array.replicate (fc.ntmps - args.size) undef, defers := [] } v) : CallsV V P Gd f args F v R := by
  intro Post d cs ha hK
  rw [enter_at _ hf hb]
  have hleave : ∀ (F' : Nat → Prop) (a' : Act) (v' : World) (todo : List Item), (∀ x ∈ a'.tmps, PFg Gd x) → (a'.defers = [] ∧ ∃ z, ResultsC P fc a'.tmps z ∧ R F' z v') → FineV V P Gd Post F' (G { (base f).at a' todo with mode := .returning } (d :: cs)) v' := by
    rintro F' a' v' todo ha' ⟨hd, z, hrs, hp⟩
    obtain ⟨z', hpf, hz'⟩ := results_pure hres a'.tmps
    have ez : z = z' := by
      have h1 := (hrs v').1
      have h2 := congrArg Prod.fst (hz' P v' #[])
      rw [Sem.runT_eq] at h2
      have h3 : (results fc a'.tmps).run P v' = .ok z' v' := h2
      rw [h1] at h3
      cases h3
      rfl
    exact FineV.still rfl (fun w => stepG_leave (b := base f) rfl hd hf (hrs w).1 (hrs w).2) (hK F' z v' (ez ▸ hpf (cfgV V P Gd 0) ha') hp)
  refine h Post (base f) [] (d :: cs) rfl rfl (fun x hx => ?_) fun F' e a' v' ha' ⟨he, q⟩ => ?_
  · rcases Array.mem_append.1 hx with hx | hx
    · exact ha x hx
    · rw [(Array.mem_replicate.1 hx).2]
      exact PFv.undef (cfgV V P Gd 0)
  rcases he with rfl | rfl
  · exact FineV.still rfl (fun _ => stepG_end) (hleave F' a' v' [] ha' q)
  · exact fun todo => hleave F' a' v' todo ha' q
end

section
variable {V P : Program} {Gd : GB} {Post : PostK} {F : Nat → Prop} {Fin : Frame → World → Prop} {B : Nat}
/-- A lone run, in company. -/
theorem bridgeF {Po : Value → World → Prop} {W1 : World} (hPr : Prune (cfgV V P Gd B)) {cs : List Frame} :
    ∀ {s : St}, Acc (Suc (cfgV V P Gd B)) s → Arrives V Fin s → okS (cfgV V P Gd B) s →
      (∀ fr v' w, fr.mode = .returning → FrOk (cfgV V P Gd B) fr → (∃ τ p, Fin fr (tp v' τ p)) → Pois (cfgV V P Gd B) F v' w → (w.tape = W1.tape ∧ ∀ b, F b → w.heap[b]? = W1.heap[b]?) → Fine P Po (Fm Gd F) (G fr cs) w) →
      ∀ w, Pois (cfgV V P Gd B) F s.2.2 w → (w.tape = W1.tape ∧ ∀ b, F b → w.heap[b]? = W1.heap[b]?) → Fine P Po (Fm Gd F) (G s.1 (s.2.1 ++ cs)) w := by
  intro s hacc
  induction hacc with
  | intro s _ ih =>
    intro hA hok hend w hw hkw
    by_cases hf : s.final
    · have := hend s.1 s.2.2 w hf.1 hok.fr (final_fin hok hA hf) hw hkw
      rw [hf.2]
      exact this
    · refine Fine.step rfl fun w₁ h₁ => ?_
      have hw₁ := hw.rel h₁
      obtain ⟨s', c, hN, hok', hP⟩ := okS.step (F := F) hPr hok hA hf w₁.tape w₁.drawn
      obtain ⟨w', es', hgo, hdid⟩ := hP true cs w₁ hw₁ fun _ _ => rfl
      refine ⟨_, _, _, hgo, ?_, fun e he => ?_, ih s' ⟨_, _, _, hN, hok'⟩ (hN.arrives hA) hok' hend w' hdid.pois ⟨hdid.tape.trans ?_, fun b hb => (hdid.keep b hb).trans ?_⟩⟩
      · rw [← hw₁.size, ← hdid.pois.size]; exact hdid.size
      · rw [← hdid.pois.size]
        exact evL_sub SF_fm <| evT_evL (hdid.ev e he).1 (hdid.ev e he).2
      · obtain ⟨d, rfl⟩ := h₁; exact hkw.1
      · obtain ⟨d, rfl⟩ := h₁; exact hkw.2 b hb

/-- ████ A contract that was shown alone. ████ -/
theorem callsV_calls (hPr : ∀ B, (∀ b, B ≤ b → Gd b) → Prune (cfgV V P Gd B)) {f : FuncId} {fc : Func} {code : Code} {args : Array Value} {v : World} {R : Value → World → Prop}
    (hP : P.funcs[f]? = some fc) (hV : V.funcs[f]? = some fc) (hb : fc.body = some code)
    (hC : ∀ (τ : Nat → Question → Nat) (p : Nat), Calls V f args (tp v τ p) fun e v' => ∃ z, e = .returned z ∧ R z v') : CallsV V P Gd f args F v fun F' z v' => F' = F ∧ R z v' := by
  intro Post c cs ha hK B w hn hw hkp
  replace hPr := hPr B hn
  have hA := arrives_calls (V := V) hC
  have hres' : ∀ tmps : Array Value, (∀ x ∈ tmps, PFv (cfgV V P Gd B) x) → Tame (cfgV V P Gd B) (PFv (cfgV V P Gd B)) (results fc tmps) := fun tmps htm => by
    rcases hPr.keep f fc hV with ⟨_, _, h⟩ | ⟨why, h⟩ | h
    · exact h tmps htm
    · -- it never returns
      exfalso
      obtain ⟨τ2, p2, _, n, fr', v', hn, hm, _⟩ := hA v.tape v.drawn
      refine doomed_refuse (V := V) (fr := Frame.enter V f args .normal) (cs := [bottom]) (v := tp v τ2 p2) (why := why) (k := []) rfl ?_ n fr' [bottom] v' hm hn
      simp [Frame.enter, hV, h]
    · rw [hb] at h; cases h
  have hcode : CodeOk (cfgV V P Gd B) code := by
    rcases hPr.keep f fc hV with ⟨_, h, _⟩ | ⟨why, h⟩ | h
    · exact h code hb
    · rw [hb] at h; cases h; exact trivial
    · rw [hb] at h; cases h
  have hent : Frame.enter V f args .normal = Frame.enter P f args .normal := by unfold Frame.enter; rw [hV, hP]
  have hok : okS (cfgV V P Gd B) (Frame.enter V f args .normal, [], v) := by
    refine ⟨⟨fun x hx => ?_, rfl, rfl, rfl, by show V.funcs[f]? = P.funcs[f]?; rw [hV, hP], fun g hg' tmps ht => ?_, fun x hx => ?_⟩, by simp, .inl rfl, hw.vok⟩
    · simp only [Frame.enter, hV, hb, Option.bind_some, Option.getD_some, List.mem_singleton] at hx
      subst hx
      exact hcode
    · have : fc = g := Option.some.inj (hP.symm.trans hg')
      subst this
      exact hres' tmps ht
    · simp only [Frame.enter, hV, Option.map_some, Option.getD_some] at hx
      rcases Array.mem_append.1 hx with hx | hx
      · exact ha x hx
      · rw [(Array.mem_replicate.1 hx).2]
        exact PFv.undef (cfgV V P Gd B)
  have := bridgeF (Po := Post.post) (W1 := w) (F := F) (cs := c :: cs) hPr (acc_suc hA) hA hok (fun fr v' w' hm hfr hfin hpw hkw => ?_) w hw ⟨rfl, fun _ _ => rfl⟩
  · rw [← hent]
    exact this
  · obtain ⟨τ, p, hfn, g, z, hg', hrun, hR⟩ := hfin
    subst hfn
    have : g = fc := Option.some.inj (hg'.symm.trans hV)
    subst this
    have hkp1 : Kp Gd Post F w' := hkp.kept hkw.1 (fun _ h => h) hkw.2
    refine Fine.step rfl fun w₁ h₁ => ?_
    have hp₁ := (hpw.rel h₁).tp τ p
    rcases hrr : (results g fr.tmps).runT V (tp v' τ p) #[] with ⟨r, es⟩
    have hr1 : (results g fr.tmps).run V (tp v' τ p) = r := by simpa using congrArg Prod.fst hrr
    rw [hrun] at hr1
    subst hr1
    obtain ⟨w'', e1, eA, e3⟩ := tame_run (hres' fr.tmps hfr.tmps) (tp v' τ p) w₁ #[] _ es hp₁ hrr trivial (fun i hi => by
      have : p + i < p := hi
      omega)
    have e11 : (results g fr.tmps).run P w₁ = .ok z w'' := by have := congrArg Prod.fst e1; rw [Sem.runT_eq] at this; exact this
    have e12 : (results g fr.tmps).events P w₁ #[] = es := by have := congrArg Prod.snd e1; rw [Sem.runT_eq] at this; exact this
    refine ⟨_, w'', seen P fr.fn es, ?_, ?_, fun e he => ?_, hK F z (tp v' τ p) eA ⟨rfl, hR⟩ B w'' hn e3.pois ((hkp1.rel h₁).kept e3.wt.1 (fun _ h => h) e3.keep)⟩
    · simp only [stepG, G, hm, unwind, hfr.defers, hP, doReturn, hfr.kind, Sem.runT_eq, e11, e12, GStep.after, Array.append_empty]
    · rw [← hp₁.size, ← e3.pois.size]; exact e3.size
    · rcases e3.ev e (mem_seen he) with h4 | h4
      · simp at h4
      · rw [← e3.pois.size]
        exact evL_sub SF_fm <| evT_evL h4 (seen_extern he)
end
end Go.Proofs.YtmmjlngbiilagaaGreatDoor

/-
  A REGION THAT DRAWS ITS ORDER, in goroutine 0's walk: whatever order comes up; what each operation leaves is said once, of every state in which what it waits for is done.
-/
namespace Go.Proofs.YtmmjlngbiilagaaGreatDoor
open Go Go.Conc

section
variable {V P : Program} {Gd : GB} {F : Nat → Prop} {fn : FuncId} {ops : Array Oper} {v : World} {a : Act} {o : Oper} {i : Nat}

/-- One operation, whichever its kind. -/
def Op1V (V P : Program) (Gd : GB) (fn : FuncId) (ops : Array Oper) (i : Nat) (K : Act → World → Prop) (F : Nat → Prop) (a : Act) (v : World) : Prop :=
  ∀ (rest : List Nat) (Q : QV), (∀ a' v', K a' v' → OpsV V P Gd fn ops rest Q F a' v') → OpsV V P Gd fn ops (i :: rest) Q F a v

theorem op1V_op {K : Act → World → Prop} (ho : ops[i]? = some o) (hw : Region.wanted o (yielded ops a.tmps) = true) (hok : ∀ B, (∀ b, B ≤ b → Gd b) → OpOk (cfgV V P Gd B) o)
    (h : ∀ τ p, uponK o a (fun a' v' => ∃ u, v' = tp u τ p ∧ K a' u) ((execOp a.eval o).run V (tp v τ p))) : Op1V V P Gd fn ops i K F a v :=
  fun rest Q hK => opsV_op ho hw hok fun τ p => by
    have := h τ p
    revert this
    cases (execOp a.eval o).run V (tp v τ p) with
    | ok x w' => cases x <;> first | (rintro ⟨u, rfl, hk⟩; exact opsV_tp (hK _ _ hk)) | exact id
    | halt _ _ => exact id
theorem op1V_not {K : Act → World → Prop} (ho : ops[i]? = some o) (hw : Region.wanted o (yielded ops a.tmps) = false) (h : K (a.put o.dst undef) v) : Op1V V P Gd fn ops i K F a v :=
  fun rest Q hK => opsV_unwanted ho hw (hK _ _ h)
theorem op1V_enter {K : Act → World → Prop} {f : FuncId} {args : Array Value} {R : Value → World → Prop} (ho : ops[i]? = some o) (hw : Region.wanted o (yielded ops a.tmps) = true)
    (hr : ∀ w, (execOp a.eval o).run P w = .ok (.enter f args) w ∧ (execOp a.eval o).events P w #[] = #[]) (hargs : (∀ x ∈ a.tmps, PFg Gd x) → ∀ x ∈ args, PFg Gd x) (hcall : CallsV V P Gd f args F v fun F' z v' => F' = F ∧ R z v')
    (h : ∀ z v', R z v' → K (a.put o.dst z) v') : Op1V V P Gd fn ops i K F a v :=
  fun rest Q hK => opsV_enter ho hw hr hargs hcall fun F' z v' ⟨e, hz⟩ => by subst e; exact hK _ _ (h z v' hz)

/-- WHICHEVER ORDER COMES UP. -/
theorem opsV_any {a0 : Act} {Y : Nat → Value → World → Prop} {S : (Nat → Bool) → World → Prop} {Q : QV} (hap : dstsApart ops = true) (hed : edgesDown ops = true) (hin : dstsIn ops a0.tmps.size = true)
    (step : ∀ i o, ops[i]? = some o → ∀ L a v, L i = false → (∀ e ∈ o.after, Region.binds .any e = true → L e.on = true) → RJ ops a0 Y S L a v →
      Op1V V P Gd fn ops i (fun a' v' => ∃ z, a' = a.put o.dst z ∧ (o.dst ≠ none → Y i z v') ∧ S (updL L i) v' ∧ ∀ j u, L j = true → Y j u v → Y j u v') F a v)
    (hq : ∀ L a v, (∀ j, j < ops.size → L j = true) → RJ ops a0 Y S L a v → Q F .normal a v) :
    ∀ (fuel t : Nat) (listed : Array Bool) (L : Nat → Bool) (a : Act) (v : World), listed.size = ops.size → (∀ j, j < ops.size → L j = listed.getD j true) → leftL ops listed ≤ fuel → RJ ops a0 Y S L a v →
      OpsV V P Gd fn ops (Region.linearise.go .any ops fuel t listed []) Q F a v := by
  have all : ∀ (listed : Array Bool) (L : Nat → Bool), listed.size = ops.size → (∀ j, j < ops.size → L j = listed.getD j true) → Region.ready .any ops listed = [] → ∀ j, j < ops.size → L j = true := by
    intro listed L hsz hL hr j
    induction j using Nat.strongRecOn with
    | _ j ih =>
      intro hj
      rw [hL j hj]
      cases hb : listed.getD j true with
      | true => rfl
      | false =>
        have : j ∈ Region.ready .any ops listed := mem_ready.2 ⟨hb, _, Array.getElem?_eq_getElem hj, fun e he hb' => by
          have hlt := edgesDown_spec hed (Array.getElem?_eq_getElem hj) e he hb'
          have := ih e.on hlt (by omega)
          rw [getD_listed hsz (by omega), ← hL _ (by omega)]
          exact this⟩
        rw [hr] at this
        cases this
  intro fuel
  induction fuel with
  | zero =>
    intro t listed L a v hsz hL hleft hJ
    have hr : Region.ready .any ops listed = [] := by
      cases hr : Region.ready .any ops listed with
      | nil => rfl
      | cons i l =>
        have hi : i ∈ Region.ready .any ops listed := by rw [hr]; simp
        obtain ⟨h1, o, h2, _⟩ := mem_ready.1 hi
        have : i ∈ (List.range ops.size).filter fun j => !listed.getD j true := List.mem_filter.2 ⟨List.mem_range.2 (Array.getElem?_eq_some_iff.1 h2).1, by simp [h1]⟩
        have h0 : ((List.range ops.size).filter fun j => !listed.getD j true).length = 0 := by unfold leftL at hleft; omega
        rw [List.eq_nil_of_length_eq_zero h0] at this
        cases this
    simp only [Region.linearise.go, List.reverse_nil]
    exact opsV_nil (hq L a v (all listed L hsz hL hr) hJ)
  | succ fuel ih =>
    intro t listed L a v hsz hL hleft hJ
    simp only [Region.linearise.go]
    change OpsV V P Gd fn ops (match (Region.ready .any ops listed)[t % (Region.ready .any ops listed).length]? with
      | some i => Region.linearise.go .any ops fuel (t / (Region.ready .any ops listed).length) (listed.setIfInBounds i true) [i]
      | none => [].reverse) Q F a v
    cases hi : (Region.ready .any ops listed)[t % (Region.ready .any ops listed).length]? with
    | none =>
      have hnil : Region.ready .any ops listed = [] := by
        cases hr : Region.ready .any ops listed with
        | nil => rfl
        | cons x xs =>
          rw [hr] at hi
          have hlt : t % (x :: xs).length < (x :: xs).length := Nat.mod_lt _ (by simp)
          simp at hi
          simp at hlt
          omega
      simpa using opsV_nil (hq L a v (all listed L hsz hL hnil) hJ)
    | some i =>
      simp only []
      rw [linearise_go_acc, List.reverse_singleton, List.singleton_append]
      obtain ⟨h1, o, h2, h3⟩ := mem_ready.1 (List.mem_of_getElem? hi)
      have hlt : i < ops.size := (Array.getElem?_eq_some_iff.1 h2).1
      have hLi : L i = false := by rw [hL i hlt]; exact h1
      refine step i o h2 L a v hLi (fun e he hb => ?_) hJ _ _ ?_
      · have hon : e.on < i := edgesDown_spec hed h2 e he hb
        rw [hL _ (by omega), ← getD_listed hsz (by omega) false]
        exact h3 e he hb
      · rintro a' v' ⟨z, rfl, hv, hS, hV⟩
        refine ih _ _ (updL L i) _ _ (by simpa using hsz) (fun j hj => ?_) ?_ (hJ.put hap hin h2 hv hS hV)
        · by_cases hji : j = i
          · subst hji
            simp [updL, hsz, hj]
          · have this : (listed.setIfInBounds i true).getD j true = listed.getD j true := by
              simp only [Array.getD_eq_getD_getElem?]
              rw [Array.getElem?_setIfInBounds_ne (Ne.symm hji)]
            simp only [updL, hji, if_false]
            rw [this]
            exact hL j hj
        · have : leftL ops (listed.setIfInBounds i true) < leftL ops listed := by
            unfold leftL
            refine filter_drop_lt _ _ i _ (List.mem_range.2 hlt) (by simp [h1]) (by simp [hsz, hlt]) (fun y hy => ?_)
            by_cases hyi : y = i
            · subst hyi; simp [h1]
            · have h4 : (listed.setIfInBounds i true).getD y true = listed.getD y true := by
                simp only [Array.getD_eq_getD_getElem?]
                rw [Array.getElem?_setIfInBounds_ne (Ne.symm hyi)]
              simp only [h4] at hy
              exact hy
          omega

/-- THE REGION. -/
theorem wpV_any (hm : P.follows .mixedOrders = true) {a0 : Act} {Y : Nat → Value → World → Prop} {S : (Nat → Bool) → World → Prop} {Q : QV} {id : Nat}
    (hap : dstsApart ops = true) (hed : edgesDown ops = true) (hin : dstsIn ops a0.tmps.size = true) (h0 : S (fun _ => false) v)
    (step : ∀ i o, ops[i]? = some o → ∀ L a v, L i = false → (∀ e ∈ o.after, Region.binds .any e = true → L e.on = true) → RJ ops a0 Y S L a v →
      Op1V V P Gd fn ops i (fun a' v' => ∃ z, a' = a.put o.dst z ∧ (o.dst ≠ none → Y i z v') ∧ S (updL L i) v' ∧ ∀ j u, L j = true → Y j u v → Y j u v') F a v)
    (hq : ∀ L a v, (∀ j, j < ops.size → L j = true) → RJ ops a0 Y S L a v → Q F .normal a v) : WpV V P Gd fn (.region id ops true) Q F a0 v :=
  wpV_region_draw fun t => by
    simp only [Region.schedule, hm, Bool.true_or, if_true]
    have hall : ∀ j, j < ops.size → (Array.replicate ops.size false).getD j true = false := fun j hj => by simp [hj]
    refine opsV_any hap hed hin step hq ops.size t _ (fun j => (Array.replicate ops.size false).getD j true && decide (j < ops.size)) _ _ (by simp) (fun j hj => by simp [hj]) ?_ ?_
    · unfold leftL
      exact Nat.le_trans (List.length_filter_le _ _) (by simp)
    · have hL : (fun j => (Array.replicate ops.size false).getD j true && decide (j < ops.size)) = fun _ => false := by
        funext j
        by_cases hj : j < ops.size
        · simp [hj]
        · simp [hj]
      rw [hL]
      exact ⟨h0, rfl, rfl, fun s _ => rfl, fun j o s _ h => by cases h⟩
end
end Go.Proofs.YtmmjlngbiilagaaGreatDoor

/-
  TAME MEANINGS at the high grade: equality, append, maps, interfaces, builds, slices of slices, bytes to strings.
-/
namespace Go.Proofs.YtmmjlngbiilagaaGreatDoor
open Go Go.Conc

section
variable {K : Cfg} {α β γ : Type} {A : α → Prop}
/-- It looks at shapes and marks alone. -/
def Looks (K : Cfg) : Sem α → Prop
  | .pure _ => True
  | .shape r k => PFb K r ∧ ∀ s, Looks K (k s)
  | .frozen _ k => ∀ b, Looks K (k b)
  | _ => False
theorem Looks.bind {f : α → Sem β} (hf : ∀ a, Looks K (f a)) : ∀ {s : Sem α}, Looks K s → Looks K (s.bind f) := by
  intro s
  induction s with
  | pure a => exact fun _ => hf a
  | shape r k ih => exact fun h => ⟨h.1, fun s => ih s (h.2 s)⟩
  | frozen a k ih => exact fun h b => ih b (h b)
  | _ => exact False.elim
theorem Looks.nc {V : Program} {f : α → Sem β} (hf : ∀ a, NC V (f a)) : ∀ {s : Sem α}, Looks K s → NC V (s.bind f) := by
  intro s
  induction s with
  | pure a => exact fun _ => hf a
  | shape r k ih => exact fun h v es => ih _ (h.2 _) v es
  | frozen a k ih => exact fun h v es => ih _ (h _) v es
  | _ => exact False.elim
theorem Looks.tame {f : α → Sem β} {B : β → Prop} (hn : ∀ a, NC K.V (f a)) (ht : ∀ a, Tame K B (f a)) : ∀ {s : Sem α}, Looks K s → Tame K B (s.bind f) := by
  intro s
  induction s with
  | pure a => exact fun _ => ht a
  | shape r k ih => exact fun h => ⟨h.1, .inr (.inr fun t n => .inr (Looks.nc (K := K) hn (h.2 _))), fun t n => ih _ (h.2 _), fun _ => ih _ (h.2 _)⟩
  | frozen a k ih => exact fun h b => ih b (h b)
  | _ => exact False.elim
theorem nc_unsupported {V : Program} (u : Unsupported) : NC V (unsupported u : Sem α) := fun _ _ h => h

theorem t_forInL {I : β → Prop} {f : γ → β → Sem (ForInStep β)} : ∀ (l : List γ) (_ : ∀ x ∈ l, ∀ b, I b → Tame K (fun s => I s.value) (f x b)) (b : β), I b → Tame K I (forIn l b f) := by
  intro l
  induction l with
  | nil => exact fun _ b hb => by rw [List.forIn_nil]; exact t_pure hb
  | cons x l ih =>
    intro hf b hb
    rw [List.forIn_cons]
    refine t_bind (hf x (List.mem_cons_self ..) b hb) fun s hs => ?_
    cases s with
    | done c => exact t_pure hs
    | yield c => exact ih (fun y hy => hf y (List.mem_cons_of_mem _ hy)) c hs
theorem t_forInA {I : β → Prop} {f : γ → β → Sem (ForInStep β)} (l : Array γ) (hf : ∀ x ∈ l, ∀ b, I b → Tame K (fun s => I s.value) (f x b)) (b : β) (hb : I b) : Tame K I (forIn l b f) := by
  rw [← Array.forIn_toList]
  exact t_forInL _ (fun x hx => hf x (by simpa using hx)) b hb
theorem t_mapMA {I : β → Prop} {f : γ → Sem β} (hf : ∀ x, Tame K I (f x)) (l : Array γ) : Tame K (fun vs : Array β => ∀ x ∈ vs, I x) (l.mapM f) := by
  rw [Array.mapM_eq_mapM_toList]
  refine Tame.bind (A := fun vs : List β => ∀ x ∈ vs, I x) (fun vs h => t_pure fun x hx => h x (by simpa using hx)) ?_
  generalize l.toList = l
  induction l with
  | nil => rw [List.mapM_nil]; exact t_pure (by simp)
  | cons x l ih =>
    rw [List.mapM_cons]
    refine t_bind (hf x) fun y hy => t_bind ih fun ys hys => t_pure fun z hz => ?_
    rcases List.mem_cons.1 hz with rfl | hz
    · exact hy
    · exact hys z hz
end

/-- Types whose values can be compared without a look at addresses. -/
def eqTyB (P : Program) (ok : TypeId → Bool) : Nat → TypeId → Bool
  | 0, _ => false
  | n + 1, t => match P.underlying t with
    | some (.int _) | some .string => true
    | some (.struct fs) => ok t && fs.all fun f => eqTyB P ok n f.type
    | _ => false

section
variable {K : Cfg} (L : Low K) {o : Oper} {ok : TypeId → Bool} (hst : ∀ t, ok t = true → K.V.stoodInHeld t = K.P.stoodInHeld t)
include L hst
theorem t_equal : ∀ (n d : Nat) (t : TypeId) {x y : Value}, eqTyB K.P ok n t = true → PFv K x → PFv K y → Tame K (fun _ => True) (Op.equalIn d t x y) := by
  intro n
  induction n with
  | zero => intro d t x y h; cases h
  | succ n ih =>
    intro d t x y h hx hy
    unfold eqTyB at h
    split at h
    · exact t_equalInt L ‹_› hx hy d
    · rename_i hu
      cases d with
      | zero => exact t_limit _
      | succ d =>
        unfold Op.equalIn
        refine t_bind (t_und L t) fun u hu' => ?_
        rw [hu] at hu'
        cases hu'
        split <;> first | contradiction | exact t_pure trivial | exact t_stuck _
    · rename_i fs hu
      simp only [Bool.and_eq_true] at h
      cases d with
      | zero => exact t_limit _
      | succ d =>
        unfold Op.equalIn
        refine t_bind (t_und L t) fun u hu' => ?_
        rw [hu] at hu'
        cases hu'
        split <;> first | contradiction | exact t_stuck _ | skip
        · rename_i xs ys h1
          cases h1
          refine t_prog (by rw [hst t h.1]) ?_
          refine t_ite (t_bind (A := fun _ => True) (t_noEntry _) fun _ _ => ?_) ?_
          all_goals
            refine t_bind (A := fun _ => True) (t_forInA fs (fun f hf b _ => ?_) _ trivial) fun s _ => ?_
            · have hf' : eqTyB K.P ok n f.type = true := Array.all_eq_true_iff_forall_mem.1 h.2 f hf
              refine t_ite (t_bind (t_part L _ _ hx.aggs) fun a ha => t_bind (t_part L _ _ hy.aggs) fun b hb => t_bind (ih d f.type hf' ha hb) fun r _ => ?_) trivial
              exact t_ite trivial trivial
            · dsimp only
              split <;> exact trivial
    · cases h
theorem t_eqGuardEq : ∀ (n d : Nat) (t : TypeId) {x y : Value}, eqTyB K.P ok n t = true → PFv K x → PFv K y → Tame K (fun _ => True) (Op.eqGuardIn d t x y) := by
  have _ := hst
  intro n
  induction n with
  | zero => intro d t x y h; cases h
  | succ n ih =>
    intro d t x y h hx hy
    unfold eqTyB at h
    split at h
    · exact t_eqGuardInt L ⟨_, ‹_›⟩ _ _ d
    · rename_i hu
      cases d with
      | zero => exact t_limit _
      | succ d =>
        unfold Op.eqGuardIn
        refine t_bind (t_und L t) fun u hu' => ?_
        rw [hu] at hu'
        cases hu'
        split <;> first | contradiction | exact t_pure trivial
    · rename_i fs hu
      simp only [Bool.and_eq_true] at h
      cases d with
      | zero => exact t_limit _
      | succ d =>
        unfold Op.eqGuardIn
        refine t_bind (t_und L t) fun u hu' => ?_
        rw [hu] at hu'
        cases hu'
        split <;> first | contradiction | skip
        · rename_i fields xs ys h1
          cases h1
          refine t_bind (A := fun _ => True) (t_forInA fs (fun f hf b _ => ?_) _ trivial) fun s _ => ?_
          · have hf' : eqTyB K.P ok n f.type = true := Array.all_eq_true_iff_forall_mem.1 h.2 f hf
            refine t_ite (t_bind (t_part L _ _ hx.aggs) fun a ha => t_bind (t_part L _ _ hy.aggs) fun b hb => t_bind (ih d f.type hf' ha hb) fun r _ => ?_) trivial
            exact t_ite trivial trivial
          · dsimp only
            split <;> exact trivial
        · exact t_pure trivial
    · cases h
end
end Go.Proofs.YtmmjlngbiilagaaGreatDoor

/-
  TAME MEANINGS at the high grade, on: append, maps, interfaces, builds, slices of slices, bytes to strings.
-/
namespace Go.Proofs.YtmmjlngbiilagaaGreatDoor
open Go Go.Conc

section
variable {K : Cfg}
theorem PFv.slca {a : Option Addr} {l c : Nat} (h : PFv K (.slice a l c)) : ∀ b, a = some b → PFb K b.block := fun b e => by subst e; exact h.slc
theorem pf_slca {a : Option Addr} (l c : Nat) (h : ∀ b, a = some b → PFb K b.block) : PFv K (.slice a l c) := by
  cases a with
  | none => exact .inr (.nils l c)
  | some b => exact pf_slice l c (h b rfl)
theorem pf_default : PFv K (default : Value) := by
  first
  | exact .inr (.bool _)
  | exact PFv.undef K
theorem add_block (a : Addr) (n : Nat) : (a.add n).block = a.block := by
  unfold Addr.add
  split <;> rfl
theorem looks_holds {a : Addr} (h : PFb K a.block) (n : Nat) : Looks K (Builtin.holdsCells a n) := ⟨h, fun s => by cases s <;> exact trivial⟩
theorem looks_mayShare {size sLen n : Nat} {base : Option Addr} {x : Value} (hb : ∀ b, base = some b → PFb K b.block) (hx : PFv K x) : Looks K (Builtin.mayShare size sLen n base x) := by
  have tail : ∀ there : Bool, Looks K (do
      if !there then return true
      match x with
      | .slice (some b) _ _ => do pure (!(← Builtin.holdsCells b (n * size)) || base.any (·.block == b.block))
      | _ => pure false : Sem Bool) := fun there => by
    cases there
    · exact trivial
    · simp only [Bool.not_true, Bool.false_eq_true, if_false]
      split
      · refine Looks.bind (fun _ => ?_) (looks_holds hx.slc _)
        exact trivial
      · exact trivial
  unfold Builtin.mayShare
  cases base with
  | none => exact tail true
  | some a => exact ((looks_holds (hb a rfl) _).bind fun b => (show Looks K (frozen _) from fun _ => trivial).bind fun _ => tail _)
theorem nextslicecap_ge {n c : Nat} : n ≤ Builtin.nextslicecap n c ∨ c ≥ n := by
  unfold Builtin.nextslicecap
  split
  · exact .inl (Nat.le_refl _)
  · split
    · exact .inl (by omega)
    · left
      rename_i h1 h2
      have h3 : Builtin.growBy n 4 c = Builtin.growBy n 4 c := rfl
      unfold Builtin.growBy
      split
      · assumption
      · unfold Builtin.growBy
        split
        · assumption
        · unfold Builtin.growBy
          split
          · assumption
          · unfold Builtin.growBy
            split
            · assumption
            · unfold Builtin.growBy
              omega
end

section
variable {K : Cfg} (L : Low K) (hg : K.gr = true) {o : Oper}
include L
theorem t_lenOf (x : Value) : Tame K (fun _ => True) (Builtin.lenOf x) := by have _ := L; unfold Builtin.lenOf; split <;> exact trivial
theorem t_firstCells (size n : Nat) {x : Value} (hx : PFv K x) : Tame K (fun cs : Array Value => ∀ y ∈ cs, PFv K y) (Builtin.firstCells size n x) := by
  unfold Builtin.firstCells
  split
  · exact t_loadFrom L _ _ _ _ (by simp)
  · exact t_pure (by simp)
  · refine t_pure fun y hy => ?_
    obtain ⟨b, _, rfl⟩ := Array.mem_map.1 hy
    exact pf_int _ _
  · exact t_stuck _
theorem pf_zeroCells {zero : Array Value} (h : ∀ y ∈ zero, PFv K y) (n : Nat) : ∀ y ∈ Builtin.zeroCells zero n, PFv K y := have _ := L; fun y hy => by
  obtain ⟨i, _, rfl⟩ := Array.mem_map.1 hy
  by_cases hz : i % zero.size < zero.size
  · rw [getElem!_pos zero _ hz]
    exact h _ (Array.getElem_mem hz)
  · rw [getElem!_neg zero _ hz]
    exact pf_default
include hg
theorem t_append {ts ts' : TypeId} {t : TypeId} {s x : Value} (hu : ∃ e, K.P.underlying ts' = some (.slice e)) (hs : PFv K s) (hx : PFv K x) : Tame K (PFv K) (Builtin.append_ #[ts, ts'] t #[s, x]) := by
  obtain ⟨e', hu⟩ := hu
  unfold Builtin.append_
  dsimp only
  refine t_bind (t_und L ts) fun d _ => ?_
  split
  · rename_i elem hel
    split
    · rename_i base sLen sCap hs'
      have hs2 : PFv K (.slice base sLen sCap) := by rw [← hs']; exact hs
      have hx2 : PFv K #[s, x][1] := hx
      generalize #[s, x][1] = x' at hx2
      generalize #[s, x][0] = s' at hs'
      subst hs'
      have ht : #[ts, ts'][1]? = some ts' := rfl
      simp only [ht]
      refine t_bind (t_size L elem) fun size _ => t_bind (t_und L ts') fun u hu' => ?_
      rw [hu] at hu'
      cases hu'
      refine t_bind (A := fun z => z = false) (rfl : (match TypeDesc.slice e' with | .int _ => true | _ => false) = false) fun zeros hz => ?_
      subst hz
      simp only [Bool.false_eq_true, if_false, Bool.not_false, if_true, false_or]
      refine t_bind (t_lenOf L x') fun n _ => ?_
      by_cases hcap : sLen + n ≤ sCap
      · rw [if_pos hcap]
        refine t_bind (t_firstCells L size n hx2) fun cs hcs => ?_
        split
        · exact t_bind (t_storeCells L _ _ _ fun y hy => hcs y (by simpa using hy)) fun _ _ => t_pure (pf_slca _ _ hs2.slca)
        · exact t_pure (pf_slca _ _ hs2.slca)
      · rw [if_neg hcap]
        refine t_bind (t_typeInfo L elem) fun ti hti => ?_
        have fin : sLen + n < 2 ^ 63 → Tame K (PFv K) (do
            let newCap ← choose (Question.appendCap (sLen + n) sCap elem)
            let i ← typeInfo elem
            askRoom (newCap * i.bytes)
            let old ← Builtin.firstCells size sLen (Value.slice base sLen sCap)
            let new ← Builtin.firstCells size n x'
            let z ← zeroValue elem
            let r ← newRow elem (old ++ new ++ Builtin.zeroCells z.cells (newCap - (sLen + n)))
            pure (Value.slice (some r) (sLen + n) newCap)) := fun hlt => by
          refine t_bind (A := fun _ => True) ⟨hlt, fun _ => trivial⟩ fun newCap _ => t_bind (t_typeInfo L elem) fun i _ => t_bind (A := fun _ => True) ?_ fun _ _ => ?_
          · unfold askRoom
            exact t_ite ⟨.inl ⟨hg, rfl⟩, trivial⟩ trivial
          · refine t_bind (t_firstCells L size sLen hs2) fun old hold => t_bind (t_firstCells L size n hx2) fun new hnew => t_bind (t_zero L elem) fun z hz => t_bind (t_newRow L elem fun y hy => ?_) fun r hr => t_pure (pf_slice _ _ hr)
            rcases Array.mem_append.1 hy with hy | hy
            · exact (Array.mem_append.1 hy).elim (hold y) (hnew y)
            · exact pf_zeroCells L hz.cells _ y hy
        by_cases hno : (↑(sLen + n) : Int) > IntKind.i64.max ∧ ti.bytes = 0
        · rw [if_pos hno]
          exact t_bind (A := fun _ => False) (t_rpError L _) fun _ h => h.elim
        · rw [if_neg hno]
          refine t_bind (t_typeInfo L elem) fun i hi => ?_
          obtain rfl : ti = i := Option.some.inj (hti.symm.trans hi)
          by_cases hbig : Builtin.nextslicecap (sLen + n) sCap * ti.bytes > 2 ^ 48
          · rw [if_pos hbig]
            refine t_bind (A := fun _ => False) ?_ fun _ h => h.elim
            refine Looks.tame (fun b => ?_) (fun b => ?_) (looks_mayShare hs2.slca hx2)
            · split
              · exact fun v es => id
              · exact nc_unsupported _
            · exact t_ite ⟨.inl ⟨hg, rfl⟩, trivial⟩ (t_limit _)
          · rw [if_neg hbig]
            refine fin ?_
            have hmax : IntKind.i64.max = 9223372036854775807 := by decide
            rw [hmax] at hno
            by_cases hb : ti.bytes = 0
            · have : ¬ ((↑(sLen + n) : Int) > 9223372036854775807) := fun h => hno ⟨h, hb⟩
              omega
            · rcases nextslicecap_ge (n := sLen + n) (c := sCap) with h | h
              · have h2 : Builtin.nextslicecap (sLen + n) sCap * 1 ≤ Builtin.nextslicecap (sLen + n) sCap * ti.bytes := Nat.mul_le_mul_left _ (by omega)
                omega
              · omega
    · exact t_stuck _
  · exact t_stuck _
end
end Go.Proofs.YtmmjlngbiilagaaGreatDoor

/-
  TAME OPERATIONS at the high grade: what functions are made of that append, slice, build, look up maps, compare.
-/
namespace Go.Proofs.YtmmjlngbiilagaaGreatDoor
open Go Go.Conc

section
variable {K : Cfg} (L : Low K) {o : Oper}
include L
theorem t_asAddr {v : Value} (h : PFv K v) : Tame K (fun a => PFb K a.block) (asAddr v) := by
  unfold asAddr
  split
  · exact h.ptr
  · exact t_rpNil L
  · exact t_stuck _
theorem t_sliceBound (x : Value) (y : Nat) (c : BoundsCode) : Tame K (fun _ => True) (Instr.sliceBound x y c) := by
  unfold Instr.sliceBound
  refine t_bind (t_asIntOf L x) fun ki _ => ?_
  obtain ⟨k, i⟩ := ki
  exact t_ite trivial (t_boundsPanic L _ _ _ _)
theorem t_sliceBounds (b : Bool) (n m : Nat) (lo hi mx : Option Value) : Tame K (fun _ => True) (Instr.sliceBounds b n m lo hi mx) := by
  unfold Instr.sliceBounds
  cases lo <;> cases hi <;> cases mx
  all_goals
    dsimp only
    repeat first
      | exact t_pure trivial
      | refine t_bind (A := fun _ => True) (t_sliceBound L _ _ _) fun _ _ => ?_
      | refine t_bind (A := fun _ => True) (t_pure trivial) fun _ _ => ?_
      | exact t_bind (A := fun _ => False) (t_stuck _) fun _ h => h.elim
theorem t_slice (t : TypeId) {x : Value} (hx : PFv K x) (lo hi mx : Option Value) : Tame K (PFv K) (Instr.slice t x lo hi mx) := by
  unfold Instr.slice
  refine t_bind (t_und L t) fun u _ => ?_
  split
  · have tail : ∀ s : ByteArray, Tame K (PFv K) (do
        let (l, h, _) ← Instr.sliceBounds false s.size s.size lo hi none
        pure (.string (s.extract l h))) := fun s => t_bind (t_sliceBounds L _ _ _ _ _ _) fun _ _ => pf_string _
    exact t_ite (t_bind (A := fun _ => False) (t_stuck _) fun _ h => h.elim) (tail _)
  · refine t_bind (t_sliceBounds L _ _ _ _ _ _) fun b _ => t_bind (t_size L _) fun size _ => ?_
    refine t_pure (pf_slca _ _ fun c hc => ?_)
    split at hc
    · exact hx.slca c hc
    · obtain ⟨d, hd, rfl⟩ := Option.map_eq_some_iff.1 hc
      rw [add_block]
      exact hx.slca d hd
  · refine t_bind (t_asAddr L hx) fun a ha => t_bind (t_und L _) fun v _ => ?_
    split
    · refine t_bind (t_sliceBounds L _ _ _ _ _ _) fun b _ => t_bind (t_size L _) fun size _ => t_pure (pf_slca _ _ fun c hc => ?_)
      cases hc
      split
      · exact ha
      · rw [add_block]; exact ha
    · exact t_stuck _
  · exact t_stuck _
theorem t_sliceAt (t : TypeId) {x : Value} (hx : PFv K x) (lo hi mx : Option Value) : Tame K (PFv K) (Instr.sliceAt t x lo hi mx) := by
  unfold Instr.sliceAt
  refine t_bind (t_und L t) fun u _ => ?_
  split
  · refine t_bind (t_sureAddr L hx) fun a ha => t_bind (t_sliceBounds L _ _ _ _ _ _) fun b _ => t_bind (t_size L _) fun size _ => t_pure (pf_slca _ _ fun c hc => ?_)
    cases hc
    split
    · exact ha
    · rw [add_block]; exact ha
  · exact t_slice L t hx _ _ _
theorem ok_slice {t : TypeId} {x : Operand} {lo hi mx : Option Operand} (h : o.op = .slice t x lo hi mx) (hx : OpdOk K x) : OpOk K o := fun ev he => by
  unfold execOp; simp only [h]
  exact nv L (t_sliceAt L t (he.val hx) _ _ _)
theorem t_build (t : TypeId) {parts : Array (Nat × Value)} (hp : ∀ p ∈ parts.toList, PFv K p.2) : Tame K (PFv K) (Instr.build t parts) := by
  unfold Instr.build
  refine t_bind (t_zero L t) fun z hz => t_bind (t_und L t) fun u _ => ?_
  split
  · refine t_bind (A := fun _ => True) ((t_mapMA (I := fun _ => True) (fun f => t_bind (t_size L _) fun _ _ => t_pure trivial) _).mono fun _ _ => trivial) fun places _ => ?_
    split
    · exact t_pure (pf_agg (fill_pf _ _ _ _ hz.cells hp ‹_›))
    · exact t_stuck _
  · refine t_bind (t_size L _) fun size _ => ?_
    split
    · exact t_pure (pf_agg (fill_pf _ _ _ _ hz.cells hp ‹_›))
    · exact t_stuck _
  · exact t_stuck _
theorem ok_build {t : TypeId} {parts : Array (Nat × Operand)} (h : o.op = .build t parts) (hp : ∀ p ∈ parts, OpdOk K p.2) : OpOk K o := fun ev he => by
  unfold execOp; simp only [h]
  refine nv L (t_build L t fun p hp' => ?_)
  obtain ⟨q, hq, rfl⟩ := Array.mem_map.1 (Array.mem_toList_iff.1 hp')
  exact he.val (hp q hq)
theorem ok_makeInterface {t : TypeId} {x : Operand} (h : o.op = .makeInterface t x) (hx : OpdOk K x) : OpOk K o := fun ev he => by
  unfold execOp; simp only [h]
  refine nv L (t_bind (t_und L t) fun u _ => ?_)
  split
  · exact t_stuck _
  · exact t_pure (.inr (.iface t ((he.val hx).resolve_left id)))
theorem ok_append {c : Call} {x y : Operand} {ts ts' : TypeId} (hg : K.gr = true) (h : o.op = .call c) (hc : c = { callee := .builtin .append, args := #[x, y], argTypes := #[ts, ts'] }) (hu : ∃ e, K.P.underlying ts' = some (.slice e)) (hx : OpdOk K x) (hy : OpdOk K y) : OpOk K o := fun ev he => by
  subst hc
  unfold execOp; simp only [h]
  show Tame K (NextOk K) (do pure (.value (← Builtin.append_ #[ts, ts'] o.type (#[x, y].map ev))))
  rw [show (#[x, y].map ev) = #[ev x, ev y] by simp]
  exact nv L (t_append L hg hu (he.val hx) (he.val hy))
/-! Equality with nil -/
theorem ok_eqNilPtr {op : BinOp} {t t' : TypeId} {x : Operand} (h : o.op = .binOp op t x (.const (.pointer none)) t') (ht : ∃ e, K.P.underlying t = some (.pointer e)) (hop : op = .eql ∨ op = .neq) (hx : OpdOk K x) : OpOk K o := fun ev he => by
  obtain ⟨e, ht⟩ := ht
  have hev : ev (.const (.pointer none)) = .pointer none := he.const _
  have heq : ∀ d (a : Value), Tame K (fun _ => True) (Op.equalIn d t a (.pointer none)) := fun d a => by
    cases d with
    | zero => exact t_limit _
    | succ d =>
      unfold Op.equalIn
      refine t_bind (t_und L t) fun u hu => ?_
      rw [ht] at hu
      cases hu
      cases a with
      | pointer p => cases p <;> exact t_pure trivial
      | _ => exact t_stuck _
  unfold execOp; simp only [h, hev]
  refine nv L (t_bind (t_eqGuard L op (fun d => ?_) _ _) fun _ _ => t_binOp L op (heq _ _) (he.val hx) (.inr .nilp))
  cases d with
  | zero => exact t_limit _
  | succ d =>
    unfold Op.eqGuardIn
    refine t_bind (t_und L t) fun u hu => ?_
    rw [ht] at hu
    cases hu
    exact t_pure trivial
theorem ok_eqFunc {op : BinOp} {t t' : TypeId} {x y : Operand} (h : o.op = .binOp op t x y t') (ht : ∃ a b c, K.P.underlying t = some (.func a b c)) (hx : OpdOk K x) (hy : OpdOk K y) : OpOk K o := by
  obtain ⟨p, r, va, ht⟩ := ht
  refine ok_binOpG L h (fun a b _ _ => ?_) (fun d a b _ _ => ?_) hx hy
  · show Tame K _ (Op.equalIn 10000 t a b)
    unfold Op.equalIn
    refine t_bind (t_und L t) fun u hu => ?_
    rw [ht] at hu
    cases hu
    split <;> first | contradiction | exact t_pure trivial | exact t_stuck _
  · cases d with
    | zero => exact t_limit _
    | succ d =>
      unfold Op.eqGuardIn
      refine t_bind (t_und L t) fun u hu => ?_
      rw [ht] at hu
      cases hu
      split <;> first | contradiction | exact t_pure trivial
theorem ok_binEq {op : BinOp} {t t' : TypeId} {x y : Operand} {ok : TypeId → Bool} {n : Nat} (hst : ∀ t, ok t = true → K.V.stoodInHeld t = K.P.stoodInHeld t) (h : o.op = .binOp op t x y t') (ht : eqTyB K.P ok n t = true) (hx : OpdOk K x) (hy : OpdOk K y) : OpOk K o :=
  ok_binOpG L h (fun _ _ ha hb => t_equal L hst n _ t ht ha hb) (fun d _ _ ha hb => t_eqGuardEq L hst n d t ht ha hb) hx hy
theorem t_bytesToString {x : Value} : Tame K (PFv K) (Conv.bytesToString x) := by
  unfold Conv.bytesToString
  split
  · exact t_pure (pf_string _)
  · refine t_bind (t_loadFrom L _ _ _ _ (by simp)) fun cs _ => t_bind (A := fun _ => True) (t_forInA cs (fun c _ b _ => ?_) _ trivial) fun s _ => t_pure (pf_string _)
    split
    · exact trivial
    · exact t_bind (A := fun _ => False) (t_stuck _) fun _ h => h.elim
  · exact t_stuck _
theorem ok_bytesToString {s d e : TypeId} {x : Operand} (h : o.op = .convert s d x) (hs : K.P.underlying s = some (.slice e)) (he' : K.P.underlying e = some (.int .u8)) (hd : K.P.underlying d = some .string) (hx : OpdOk K x) : OpOk K o := fun ev he => by
  unfold execOp; simp only [h]
  refine nv L ?_
  unfold convert
  refine t_bind (t_und L s) fun u hu => t_bind (t_und L d) fun u' hu' => ?_
  rw [hs] at hu
  rw [hd] at hu'
  cases hu
  cases hu'
  have fin : ∀ e', TypeDesc.slice e = TypeDesc.slice e' → Tame K (PFv K) (do
      match ← underlying e' with
      | .int .u8 => Conv.bytesToString (ev x)
      | .int .i32 => Conv.runesToString (ev x)
      | _ => stuck "Convert: a slice of what to string?") := fun e' h1 => by
    cases h1
    refine t_bind (t_und L e) fun u hu => ?_
    rw [he'] at hu
    cases hu
    exact t_bytesToString L
  split <;> first | contradiction | exact t_pure (pf_string _) | exact t_noEntry _ | exact t_pure (he.val hx) | exact fin _ ‹_›
end
end Go.Proofs.YtmmjlngbiilagaaGreatDoor
