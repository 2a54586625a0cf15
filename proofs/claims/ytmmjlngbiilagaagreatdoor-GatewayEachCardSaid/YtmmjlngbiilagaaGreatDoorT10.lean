/-
  ONE STEP OF A TAME GOROUTINE's, in both.
-/
import Derived.Test.YtmmjlngbiilagaaGreatDoorT09

namespace Go.Proofs.YtmmjlngbiilagaaGreatDoor
open Go Go.Conc

section
variable {K : Cfg} {fr : Frame}
theorem FrOk.lets (h : FrOk K fr) : Lets fr := ⟨h.defers, fun d b r s k e => by have := h.todo (.call d b r s) (by rw [e]; exact List.mem_cons_self ..); exact this⟩
theorem exitTo_sub {id : Nat} : ∀ {k k' : List Item}, exitTo id k = some k' → ∀ x ∈ k', x ∈ k := by
  intro k
  induction k with
  | nil => intro k' h; cases h
  | cons y k ih =>
    intro k' h x hx
    cases y with
    | inBlock i =>
      simp only [exitTo] at h
      split at h
      · cases h; exact List.mem_cons_of_mem _ hx
      · exact List.mem_cons_of_mem _ (ih h x hx)
    | _ => exact List.mem_cons_of_mem _ (ih h x hx)
theorem FrOk.withTodo (h : FrOk K fr) {todo : List Item} (ht : ∀ x ∈ todo, ItemOk K x) : FrOk K { fr with todo := todo } := ⟨ht, h.defers, h.kind, h.round, h.fn, h.res, h.tmps⟩
theorem FrOk.finish (h : FrOk K fr) {v : Value} (hv : PFv K v) : FrOk K (fr.finish v) := by
  have hsub : ∀ {y : Item} {k : List Item}, fr.todo = y :: k → ∀ x ∈ k, ItemOk K x := fun e x hx => h.todo x (by rw [e]; exact List.mem_cons_of_mem _ hx)
  unfold Frame.finish
  split
  · rename_i ops i rest k e
    exact ⟨fun x hx => (List.mem_cons.1 hx).elim (fun e' => by subst e'; exact (h.todo (.inRegion ops (i :: rest)) (by rw [e]; exact List.mem_cons_self ..) :)) (hsub e x), h.defers, h.kind, h.round, h.fn, h.res, fun x hx => by
      split at hx
      · exact (mem_setIf hx).elim (fun e => e ▸ hv) (h.tmps x)
      · exact h.tmps x hx⟩
  · rename_i e; exact False.elim (by have := h.todo _ (by rw [e]; exact List.mem_cons_self ..); exact this)
  · rename_i e; exact False.elim (by have := h.todo _ (by rw [e]; exact List.mem_cons_self ..); exact this)
  · rename_i e; exact False.elim (by have := h.todo _ (by rw [e]; exact List.mem_cons_self ..); exact this)
  · rename_i k e
    exact ⟨hsub e, h.defers, h.kind, h.round, h.fn, h.res, fun x hx => by
      simp only [Array.mem_singleton] at hx
      exact hx ▸ hv⟩
  · exact h
theorem finish_mode (fr : Frame) (v : Value) : (fr.finish v).mode = fr.mode := by
  unfold Frame.finish
  split <;> rfl

/-- What a step comes to. -/
def Stp (K : Cfg) (F : Nat → Prop) (mp : Bool) (fr : Frame) (l cs : List Frame) (v w : World) : Prop :=
  (∃ o u, step K.V (lone fr (l ++ [bottom]) v) = .ended o u) ∨
  (∃ fr' cs' v', step K.V (lone fr (l ++ [bottom]) v) = .next (lone fr' cs' v') ∧ Doomed K.V fr' cs' v') ∨
  ∃ fr' l' v', step K.V (lone fr (l ++ [bottom]) v) = .next (lone fr' (l' ++ [bottom]) v') ∧ FrOk K fr' ∧ (∀ x ∈ l', FrOk K x ∧ x.mode = .run) ∧ (fr'.mode = .run ∨ fr'.mode = .returning) ∧ v.drawn ≤ v'.drawn ∧
    ((∀ i, v.drawn + i < v'.drawn → v.tape (v.drawn + i) = w.tape (w.drawn + i)) → ∃ w' es', stepG K.P mp (G fr (l ++ cs)) w = .go (G fr' (l' ++ cs)) w' es' ∧ Alike K F v w v' w' #[] es' ∧ ∀ e ∈ es', ∀ f, e.loc ≠ .mark (.extern f))

/-- Without the world. -/
theorem Stp.still {F : Nat → Prop} {mp : Bool} {l cs : List Frame} {v w : World} (hp : Pois K F v w) (hl : ∀ x ∈ l, FrOk K x ∧ x.mode = .run) {fr' : Frame} (hf : FrOk K fr') (hm : fr'.mode = .run ∨ fr'.mode = .returning)
    (h : ∀ (Q : Program) (m : Bool) (c : List Frame) (u : World), stepG Q m (G fr (l ++ c)) u = .go (G fr' (l ++ c)) u #[]) : Stp K F mp fr l cs v w :=
  .inr (.inr ⟨fr', l, v, step_lone_go (by have := h K.V true [bottom] v; simp only [G] at this; rw [this]; rfl), hf, hl, hm, Nat.le_refl _, fun _ => ⟨w, #[], h K.P mp cs w, ⟨hp, rfl, ⟨rfl, rfl, rfl⟩, ⟨0, rfl, rfl⟩, Nat.le_refl _, fun _ _ => rfl, fun e he => by simp at he⟩, fun e he => by simp at he⟩⟩)

theorem seen_fold_extern (quiet : FuncId → Bool) : ∀ (l : List Event) (q : Bool) (kept : Array Event), (∀ e ∈ kept, ∀ f, e.loc ≠ .mark (.extern f)) → ∀ e ∈ (l.foldl (seenStep quiet) (q, kept)).2, ∀ f, e.loc ≠ .mark (.extern f) := by
  intro l
  induction l with
  | nil => exact fun q kept h => h
  | cons x l ih =>
    intro q kept h
    simp only [List.foldl_cons, seenStep]
    split
    · exact ih _ _ h
    · rename_i hne
      refine ih _ _ fun e he => ?_
      split at he
      · exact h e he
      · rcases Array.mem_push.1 he with he | rfl
        · exact h e he
        · exact hne
theorem seen_extern {P : Program} {fn : FuncId} {es : Array Event} {e : Event} (h : e ∈ seen P fn es) : ∀ f, e.loc ≠ .mark (.extern f) := by
  rw [seen_def] at h
  exact seen_fold_extern _ es.toList _ #[] (fun e he => by simp at he) e h
theorem after_go (es : Array Event) (g : Goroutine) (w : World) (es' : Array Event) : GStep.after es (.go g w es') = .go g w (es ++ es') := rfl

/-- BY A TAME MEANING. -/
theorem Stp.apply (hPr : Prune K) {F : Nat → Prop} {mp : Bool} {l cs : List Frame} {v w : World} (hp : Pois K F v w) (hfr : FrOk K fr) (hl : ∀ x ∈ l, FrOk K x ∧ x.mode = .run) (hm : fr.mode = .run)
    {s : Sem Next} (hs : Tame K (NextOk K) s) (h : ∀ (Q : Program) (m : Bool) (c : List Frame) (u : World), stepG Q m (G fr (l ++ c)) u = stepG.apply Q true fr (l ++ c) none s u)
    (hrow : (∃ ops i k, fr.todo = .inRegion ops i :: k) ∨ ∃ r a k, fr.todo = .extern r a :: k) : Stp K F mp fr l cs v w := by
  have hV := h K.V true [bottom] v
  have hPP := h K.P mp cs w
  have hcall : ∀ d b r s k, fr.todo ≠ .call d b r s :: k := hfr.lets.todo
  have hkind : (match fr.todo with | .call _ true _ _ :: _ => CallKind.wrapped | _ => .normal) = .normal := by
    rcases hrow with ⟨ops, i, k, e⟩ | ⟨r, a, k, e⟩ <;> rw [e]
  have hne : (fr.kind == CallKind.early) = false := by rw [hfr.kind]; rfl
  rcases hr : s.runT K.V v #[] with ⟨r, es⟩
  have hr1 : s.run K.V v = r := by simpa using congrArg Prod.fst hr
  cases r with
  | halt hh u =>
    have hk := (tame_drawn hs v #[] _ _ hp.vok hr).2 hh u rfl
    cases hh with
    | panic x =>
      refine .inr (.inl ⟨fr.raise [{ v := x, recovered := false }], l ++ [bottom], u, step_lone_go (by simp only [G] at hV; rw [hV]; simp [stepG.apply, hr1, after_go]), ?_⟩)
      obtain ⟨ch', hch⟩ := raise_mode fr [{ v := x, recovered := false }]
      obtain ⟨h1, h2⟩ := raise_rest fr [{ v := x, recovered := false }]
      exact doomed_panic l _ ch' u hch ⟨by rw [h1]; exact hfr.defers, by rw [h2]; exact hcall⟩ fun x hx => (hl x hx).1.lets
    | stuck m => exact .inl ⟨_, u, step_lone_ended (by simp only [G] at hV; rw [hV]; simp [stepG.apply, hr1, GStep.after]; rfl)⟩
    | unsupported un =>
      cases un with
      | initOrder g => exact hk.elim
      | _ => exact .inl ⟨_, u, step_lone_ended (by simp only [G] at hV; rw [hV]; simp [stepG.apply, hr1, GStep.after]; rfl)⟩
    | _ => exact hk.elim
  | ok nx u =>
    have hA := tame_ok hs hp.vok hr trivial
    have hd := (tame_drawn hs v #[] _ _ hp.vok hr).1
    have go : ∀ {fr' : Frame} {l' : List Frame}, FrOk K fr' → (∀ x ∈ l', FrOk K x ∧ x.mode = .run) → (fr'.mode = .run ∨ fr'.mode = .returning) →
        (∀ (Q : Program) (c : List Frame) (z u' : World) (es' : Array Event), (Q = K.V ∨ Q = K.P) → s.run Q z = .ok nx u' → s.events Q z #[] = es' → stepG.apply Q true fr (l ++ c) none s z = .go (G fr' (l' ++ c)) u' (seen Q fr.fn es' ++ #[])) → Stp K F mp fr l cs v w := fun {fr' l'} hf' hl' hm' hgo => by
      refine .inr (.inr ⟨fr', l', u, step_lone_go (by simp only [G] at hV; rw [hV, hgo K.V [bottom] v u es (.inl rfl) hr1 (by simpa using congrArg Prod.snd hr)]; rfl), hf', hl', hm', hd, fun ht => ?_⟩)
      obtain ⟨w', e1, _, e3⟩ := tame_run hs v w #[] _ es hp hr trivial ht
      refine ⟨w', _, by rw [hPP, hgo K.P cs w w' es (.inr rfl) (by simpa [withW] using congrArg Prod.fst e1) (by simpa using congrArg Prod.snd e1)], ⟨e3.pois, e3.vt, e3.wt, e3.drawn, e3.size, e3.keep, fun e he => ?_⟩, fun e he => ?_⟩
      · rw [Array.append_empty] at he
        exact e3.ev e (mem_seen he)
      · rw [Array.append_empty] at he
        exact seen_extern he
    cases nx with
    | value x => exact go (hfr.finish hA) hl (.inl (by rw [finish_mode]; exact hm)) fun Q c z u' es' _ hz hz2 => by simp [stepG.apply, hz, hz2, after_go, hne, G]
    | skip => exact go (hfr.finish (.undef K)) hl (.inl (by rw [finish_mode]; exact hm)) fun Q c z u' es' _ hz hz2 => by simp [stepG.apply, hz, hz2, after_go, hne, G]
    | enter f args =>
      have hstep : ∀ (Q : Program) (c : List Frame) (z u' : World) (es' : Array Event), s.run Q z = .ok (.enter f args) u' → s.events Q z #[] = es' → stepG.apply Q true fr (l ++ c) none s z = .go (G (Frame.enter Q f args .normal) ((fr :: l) ++ c)) u' (seen Q fr.fn es' ++ #[]) := fun Q c z u' es' hz hz2 => by
        simp only [stepG.apply, if_true, hz, Sem.runT_eq, hz2, hne, Bool.false_eq_true, if_false, after_go, G, List.cons_append]
        rcases hrow with ⟨_, _, _, e⟩ | ⟨_, _, _, e⟩ <;> simp only [e]
      have doom : ∀ why k, (Frame.enter K.V f args .normal).todo = .code (.refuse why) :: k → Stp K F mp fr l cs v w := fun why k hk =>
        .inr (.inl ⟨_, _, u, step_lone_go (by simp only [G] at hV; rw [hV, hstep K.V [bottom] v u es hr1 (by simpa using congrArg Prod.snd hr)]; rfl), doomed_refuse (why := why) (k := k) rfl hk⟩)
      cases hf : K.V.funcs[f]? with
      | none => exact doom _ [] (by simp only [Frame.enter, hf]; rfl)
      | some fn =>
        rcases hPr.keep f fn hf with ⟨hPf, hbody, hres⟩ | ⟨why, hbody⟩ | hbody
        · have heq : Frame.enter K.P f args .normal = Frame.enter K.V f args .normal := by simp only [Frame.enter, hf, hPf]
          refine go (fr' := Frame.enter K.V f args .normal) (l' := fr :: l) ⟨fun x hx => ?_, rfl, rfl, rfl, hf.trans hPf.symm, fun fn' hfn' => ?_, fun x hx => ?_⟩ (fun x hx => (List.mem_cons.1 hx).elim (fun e => e ▸ ⟨hfr, hm⟩) (hl x)) (.inl rfl) fun Q c z u' es' hQ hz hz2 => ?_
          · simp only [Frame.enter, hf, List.mem_singleton] at hx
            subst hx
            cases hb' : fn.body with
            | none => simp only [Option.bind_some, hb']; exact trivial
            | some c => simp only [Option.bind_some, hb']; exact hbody c hb'
          · rw [show (Frame.enter K.V f args .normal).fn = f from rfl, hPf] at hfn'
            cases hfn'
            exact hres
          · exact (Array.mem_append.1 hx).elim (hA x) fun h => by
              have := Array.eq_of_mem_replicate h
              exact this ▸ .undef K
          · rw [hstep Q c z u' es' hz hz2]
            rcases hQ with rfl | rfl
            · rfl
            · rw [heq]
        · exact doom why [] (by simp only [Frame.enter, hf, Option.bind_some, hbody]; rfl)
        · exact doom _ [] (by simp only [Frame.enter, hf, Option.bind_some, hbody]; rfl)
    | row rn args =>
      have hrn : K.rows rn = true ∧ ∀ x ∈ args, PFv K x := hA
      rcases hrow with ⟨ops, i, k, e⟩ | ⟨r', a, k, e⟩
      · refine go (fr' := Frame.ofRow K.P rn args .normal) (l' := fr :: l) ⟨fun x hx => ?_, rfl, rfl, rfl, ?_, fun fn' hfn' => ?_, fun x hx => ?_⟩ (fun x hx => (List.mem_cons.1 hx).elim (fun e => e ▸ ⟨hfr, hm⟩) (hl x)) (.inl rfl) fun Q c z u' es' hQ hz hz2 => ?_
        · simp only [Frame.ofRow, List.mem_singleton] at hx
          subst hx
          exact hrn
        · have h1 : K.V.funcs[K.P.funcs.size]? = none := by rw [← hPr.size]; simp
          have h2 : K.P.funcs[K.P.funcs.size]? = none := by simp
          exact h1.trans h2.symm
        · have h2 : K.P.funcs[K.P.funcs.size]? = none := by simp
          rw [show (Frame.ofRow K.P rn args .normal).fn = K.P.funcs.size from rfl, h2] at hfn'
          cases hfn'
        · simp only [Frame.ofRow, Array.mem_singleton] at hx
          exact hx ▸ .undef K
        · have hQs : Frame.ofRow Q rn args .normal = Frame.ofRow K.P rn args .normal := by
            rcases hQ with rfl | rfl
            · simp only [Frame.ofRow, hPr.size]
            · rfl
          simp only [stepG.apply, if_true, hz, Sem.runT_eq, hz2, hne, Bool.false_eq_true, if_false, after_go, hkind, G, e, List.cons_append, hQs]
      · refine go (fr' := { fr with todo := .extern rn args :: k }) (hfr.withTodo fun x hx => ?_) hl (.inl hm) fun Q c z u' es' hQ hz hz2 => ?_
        · rcases List.mem_cons.1 hx with rfl | hx
          · exact hrn
          · exact hfr.todo x (by rw [e]; exact List.mem_cons_of_mem _ hx)
        · simp only [stepG.apply, if_true, hz, Sem.runT_eq, hz2, hne, Bool.false_eq_true, if_false, after_go, G, e]
    | _ => exact hA.elim
end
end Go.Proofs.YtmmjlngbiilagaaGreatDoor

/-
  EVERY STEP OF A TAME GOROUTINE's, in both.
-/
namespace Go.Proofs.YtmmjlngbiilagaaGreatDoor
open Go Go.Conc

section
variable {K : Cfg} {fr : Frame}
theorem step_tame (hPr : Prune K) {F : Nat → Prop} {mp : Bool} {l : List Frame} (cs : List Frame) {v w : World} (hp : Pois K F v w) (hfr : FrOk K fr) (hl : ∀ x ∈ l, FrOk K x ∧ x.mode = .run)
    (hm : fr.mode = .run ∨ fr.mode = .returning ∧ l ≠ []) : Stp K F mp fr l cs v w := by
  have hr := hfr.round
  rcases hm with hm | ⟨hm, hne⟩
  · -- it runs
    have leave : ∀ {fr' : Frame}, fr' = { fr with mode := .returning } → FrOk K fr' := fun e => by subst e; exact ⟨hfr.todo, hfr.defers, hfr.kind, hfr.round, hfr.fn, hfr.res, hfr.tmps⟩
    have to : ∀ (todo : List Item), (∀ x ∈ todo, ItemOk K x) → (∀ (Q : Program) (m : Bool) (c : List Frame) (u : World), stepG Q m (G fr (l ++ c)) u = .go (G { fr with todo := todo } (l ++ c)) u #[]) → Stp K F mp fr l cs v w :=
      fun todo ht h => .still hp hl (hfr.withTodo ht) (.inl hm) h
    cases ht : fr.todo with
    | nil => exact .still hp hl (leave rfl) (.inr rfl) fun Q m c u => by simp [stepG, stepG.exec, hm, ht, hr, G]
    | cons x k =>
      have hx : ItemOk K x := hfr.todo x (by rw [ht]; exact List.mem_cons_self ..)
      have hk : ∀ y ∈ k, ItemOk K y := fun y hy => hfr.todo y (by rw [ht]; exact List.mem_cons_of_mem _ hy)
      have two : ∀ {a b : Item}, ItemOk K a → ItemOk K b → ∀ y ∈ a :: b :: k, ItemOk K y := fun ha hb' y hy => by
        rcases List.mem_cons.1 hy with rfl | hy
        · exact ha
        · rcases List.mem_cons.1 hy with rfl | hy
          · exact hb'
          · exact hk y hy
      have one : ∀ {a : Item}, ItemOk K a → ∀ y ∈ a :: k, ItemOk K y := fun ha y hy => by
        rcases List.mem_cons.1 hy with rfl | hy
        · exact ha
        · exact hk y hy
      cases x with
      | code c =>
        cases c with
        | skip => exact to k hk fun Q m c u => by simp [stepG, stepG.exec, hm, ht, G]
        | label n => exact to k hk fun Q m c u => by simp [stepG, stepG.exec, hm, ht, G]
        | ret => exact .still hp hl (leave rfl) (.inr rfl) fun Q m c u => by simp [stepG, stepG.exec, hm, ht, hr, G]
        | seq a b => exact to (.code a :: .code b :: k) (two hx.1 hx.2) fun Q m c u => by simp [stepG, stepG.exec, hm, ht, G]
        | cond c a b =>
          cases he : fr.eval c with
          | bool t => exact to (.code (if t then a else b) :: k) (one (by cases t <;> first | exact hx.2 | exact hx.1)) fun Q m c u => by simp [stepG, stepG.exec, hm, ht, G, he]
          | _ => exact .inl ⟨_, v, step_lone_ended (by simp [stepG, stepG.exec, hm, ht, he]; rfl)⟩
        | block n c => exact to (.code c :: .inBlock n :: k) (two hx trivial) fun Q m c u => by simp [stepG, stepG.exec, hm, ht, G]
        | loop c => exact to (.code c :: .inLoop c :: k) (two hx hx) fun Q m c u => by simp [stepG, stepG.exec, hm, ht, G]
        | scope c => exact to (.code c :: .inScope c :: k) (two hx hx) fun Q m c u => by simp [stepG, stepG.exec, hm, ht, G]
        | exit n =>
          cases he : exitTo n k with
          | none => exact .inl ⟨_, v, step_lone_ended (by simp [stepG, stepG.exec, hm, ht, he, hr]; rfl)⟩
          | some k' => exact to k' (fun y hy => hk y (exitTo_sub he y hy)) fun Q m c u => by simp [stepG, stepG.exec, hm, ht, G, he]
        | refuse s => exact .inl ⟨_, v, step_lone_ended (by simp [stepG, stepG.exec, hm, ht]; rfl)⟩
        | rangeFunc => exact False.elim hx
        | goto => exact False.elim hx
        | region id ops draw =>
          cases draw with
          | false => exact to (.inRegion ops (List.range ops.size) :: k) (one hx) fun Q m c u => by simp [stepG, stepG.exec, hm, ht, G]
          | true =>
            have hch : ∀ (Q : Program) (u : World), (choose (.order fr.fn id)).run Q u = .ok (u.tape u.drawn (.order fr.fn id)) { u with drawn := u.drawn + 1 } := fun Q u => by
              simp [choose, Sem.run, Question.forced, Question.cut]
            have hst : ∀ (Q : Program) (m : Bool) (c : List Frame) (u : World), stepG Q m (G fr (l ++ c)) u = .go (G { fr with todo := .inRegion ops (Region.schedule (Q.follows .mixedOrders) ops (u.tape u.drawn (.order fr.fn id))) :: k } (l ++ c)) { u with drawn := u.drawn + 1 } #[] := fun Q m c u => by
              simp only [stepG, G, hm, stepG.exec, ht, hch]
              rfl
            have hfo : K.V.follows .mixedOrders = K.P.follows .mixedOrders := by rw [hPr.tables]
            refine .inr (.inr ⟨{ fr with todo := .inRegion ops (Region.schedule (K.V.follows .mixedOrders) ops (v.tape v.drawn (.order fr.fn id))) :: k }, l, { v with drawn := v.drawn + 1 }, step_lone_go (by have := hst K.V true [bottom] v; simp only [G] at this; rw [this]; rfl), hfr.withTodo (one hx), hl, .inl hm, Nat.le_succ _, fun hta => ?_⟩)
            have e0 := hta 0 (by simp)
            simp only [Nat.add_zero] at e0
            refine ⟨{ w with drawn := w.drawn + 1 }, #[], ?_, ⟨hp.draw _ _, rfl, ⟨rfl, rfl, rfl⟩, ⟨1, rfl, rfl⟩, Nat.le_refl _, fun _ _ => rfl, fun e he => by simp at he⟩, fun e he => by simp at he⟩
            rw [hst K.P mp cs w, hfo, e0]
      | inBlock n => exact to k hk fun Q m c u => by simp [stepG, stepG.exec, hm, ht, G]
      | inScope c => exact to k hk fun Q m c u => by simp [stepG, stepG.exec, hm, ht, G]
      | inLoop c => exact to (.code c :: .inLoop c :: k) (two hx hx) fun Q m c u => by simp [stepG, stepG.exec, hm, ht, G]
      | inRangeFunc n => exact False.elim hx
      | endRangeFunc n => exact False.elim hx
      | beginRound => exact False.elim hx
      | call => exact False.elim hx
      | extern r args =>
        cases he : Extern.next r with
        | none => exact .inl ⟨_, v, step_lone_ended (by simp [stepG, stepG.exec, hm, ht, he]; rfl)⟩
        | some e => exact Stp.apply hPr hp hfr hl hm (hPr.rows r hx.1 args hx.2 e he) (fun Q m c u => by simp [stepG, stepG.exec, hm, ht, G, he]) (.inr ⟨r, args, k, ht⟩)
      | inRegion ops todo =>
        cases todo with
        | nil => exact to k hk fun Q m c u => by simp [stepG, stepG.exec, hm, ht, G]
        | cons i rest =>
          cases hw : ((ops[i]?).map (Region.wanted · (yielded ops fr.tmps))).getD false with
          | false => exact .still hp hl (hfr.finish (.undef K)) (.inl (by rw [finish_mode]; exact hm)) fun Q m c u => by simp [stepG, stepG.exec, hm, ht, G, hw]
          | true =>
            cases ho : ops[i]? with
            | none => simp [ho] at hw
            | some o =>
              have hoper : fr.oper? = some o := by simp [Frame.oper?, ht, ho]
              refine Stp.apply hPr hp hfr hl hm (hx i o ho fr.eval hfr.ev) (fun Q m c u => ?_) (.inl ⟨ops, _, k, ht⟩)
              simp only [stepG, G, hm, stepG.exec, ht, hw, if_true, stepG.oper, hoper, hr]
  · -- it returns
    obtain ⟨x, l', rfl⟩ := List.exists_cons_of_ne_nil hne
    have hx := (hl x (List.mem_cons_self ..)).1
    have hmx := Or.inl (b := x.mode = .returning) ((hl x (List.mem_cons_self ..)).2)
    have hl' : ∀ y ∈ l', FrOk K y ∧ y.mode = .run := fun y hy => hl y (List.mem_cons_of_mem _ hy)
    have hne' : fr.mode ≠ .run := by rw [hm]; simp
    have huw : ∀ (Q : Program) (m : Bool) (c : List Frame) (u : World), stepG Q m (G fr (x :: l' ++ c)) u = match Q.funcs[fr.fn]? with
        | none => .go (G (x.finish (fr.tmps.getD 0 undef)) (l' ++ c)) u #[]
        | some fn => GStep.after (seen Q fr.fn ((results fn fr.tmps).events Q u #[])) (match (results fn fr.tmps).run Q u with
          | .ok z u' => .go (G (x.finish z) (l' ++ c)) u' #[]
          | .halt (.stuck s) u' => .ended (.stuck s (fr.pos Q)) u'
          | .halt _ u' => .ended (.stuck "return: the result variables cannot be read" (fr.pos Q)) u') := fun Q m c u => by
      simp only [stepG, G, hm, unwind, hfr.defers, Sem.runT_eq, doReturn, hfr.kind, List.cons_append]
      cases Q.funcs[fr.fn]? <;> rfl
    have hfx : ∀ z, (x.finish z).mode = .run ∨ (x.finish z).mode = .returning := fun z => by rw [finish_mode]; exact hmx
    cases hf : K.P.funcs[fr.fn]? with
    | none =>
      have hfV := hfr.fn.trans hf
      refine .inr (.inr ⟨x.finish (fr.tmps.getD 0 undef), l', v, step_lone_go (by have := huw K.V true [bottom] v; rw [hfV] at this; simp only [G] at this; rw [this]; rfl), hx.finish (hfr.ev.tmp 0), hl', hfx _, Nat.le_refl _, fun _ => ⟨w, #[], ?_, ⟨hp, rfl, ⟨rfl, rfl, rfl⟩, ⟨0, rfl, rfl⟩, Nat.le_refl _, fun _ _ => rfl, fun e he => by simp at he⟩, fun e he => by simp at he⟩⟩)
      have := huw K.P mp cs w
      rw [hf] at this
      exact this
    | some fn =>
      have hfV := hfr.fn.trans hf
      have hs := hfr.res fn hf fr.tmps hfr.tmps
      have eV := huw K.V true [bottom] v
      rw [hfV] at eV
      simp only [G] at eV
      rcases hrr : (results fn fr.tmps).runT K.V v #[] with ⟨r, es⟩
      have hr1 : (results fn fr.tmps).run K.V v = r := by simpa using congrArg Prod.fst hrr
      rw [hr1] at eV
      cases r with
      | halt h u => cases h <;> exact .inl ⟨_, u, step_lone_ended (by rw [eV]; rfl)⟩
      | ok z u =>
        have hd := (tame_drawn hs v #[] _ _ hp.vok hrr).1
        have hA := tame_ok hs hp.vok hrr trivial
        refine .inr (.inr ⟨x.finish z, l', u, step_lone_go (by rw [eV]; rfl), hx.finish hA, hl', hfx z, hd, fun ht => ?_⟩)
        obtain ⟨w', e1, _, e3⟩ := tame_run hs v w #[] _ es hp hrr trivial ht
        have eP := huw K.P mp cs w
        have e11 : (results fn fr.tmps).run K.P w = .ok z w' := by simpa [withW] using congrArg Prod.fst e1
        have e12 : (results fn fr.tmps).events K.P w #[] = es := by simpa using congrArg Prod.snd e1
        rw [hf] at eP
        simp only [e11, e12, after_go, Array.append_empty] at eP
        exact ⟨w', _, eP, ⟨e3.pois, e3.vt, e3.wt, e3.drawn, e3.size, e3.keep, fun e he => e3.ev e (mem_seen he)⟩, fun e he => seen_extern he⟩
end
end Go.Proofs.YtmmjlngbiilagaaGreatDoor

/-
  FROM LONE RUNS ON EVERY TAPE TO A GOROUTINE's OWN WAY IN COMPANY.
-/
namespace Go.Proofs.YtmmjlngbiilagaaGreatDoor
open Go Go.Conc

/-- The same world on another tape. -/
def tp (v : World) (τ : Nat → Question → Nat) (p : Nat) : World := { v with tape := τ, drawn := p }
/-- 'Goes' without a number. -/
inductive GoesI (P : Program) (main : Bool) (R : World → World → Prop) (D : World → World → Array Event → Prop) (Stop : Goroutine → World → Prop) : Goroutine → World → Prop
  | stop {g : Goroutine} {w : World} : (∀ w₁, R w w₁ → Stop g w₁) → GoesI P main R D Stop g w
  | step {g : Goroutine} {w : World} (f : World → Goroutine) (u : World → World) (e : World → Array Event) : g.status = .running →
      (∀ w₁, R w w₁ → stepG P main g w₁ = .go (f w₁) (u w₁) (e w₁) ∧ D w₁ (u w₁) (e w₁)) → (∀ w₁, R w w₁ → GoesI P main R D Stop (f w₁) (u w₁)) → GoesI P main R D Stop g w
theorem GoesI.step' {P : Program} {main : Bool} {R : World → World → Prop} {D : World → World → Array Event → Prop} {Stop : Goroutine → World → Prop} {g : Goroutine} {w : World} (hs : g.status = .running)
    (h : ∀ w₁, R w w₁ → ∃ g' w' es, stepG P main g w₁ = .go g' w' es ∧ D w₁ w' es ∧ GoesI P main R D Stop g' w') : GoesI P main R D Stop g w := by
  classical
  refine .step (fun w₁ => if h' : R w w₁ then (h w₁ h').choose else g) (fun w₁ => if h' : R w w₁ then (h w₁ h').choose_spec.choose else w) (fun w₁ => if h' : R w w₁ then (h w₁ h').choose_spec.choose_spec.choose else #[]) hs (fun w₁ h₁ => ?_) (fun w₁ h₁ => ?_)
  · simp only [dif_pos h₁]
    have := (h w₁ h₁).choose_spec.choose_spec.choose_spec
    exact ⟨this.1, this.2.1⟩
  · simp only [dif_pos h₁]
    exact (h w₁ h₁).choose_spec.choose_spec.choose_spec.2.2

/-- The same of the pruned program by itself. -/
def Cfg.vv (K : Cfg) : Cfg := { K with P := K.V, odds := selfO }
section
variable {K : Cfg}
theorem PFv.vv {v : Value} : PFv K.vv v ↔ PFv K v := Iff.rfl
theorem TameAt.vv {b : Nat} {o : Obj} : TameAt K.vv b o ↔ TameAt K b o := by cases o <;> exact Iff.rfl
theorem TameO.vv {o : Obj} : TameO K.vv o ↔ TameO K o := by cases o <;> exact Iff.rfl
theorem Tame.vv {α : Type} {A : α → Prop} : ∀ {s : Sem α}, Tame K A s → Tame K.vv A s := by
  intro s
  induction s with
  | pure a => exact id
  | load m a k ih => exact fun ⟨h1, h2⟩ => ⟨h1, fun v hv => ih v (h2 v hv)⟩
  | store m a v k ih => exact fun ⟨h1, h2, h3⟩ => ⟨h1, h2, ih h3⟩
  | new o k ih => exact fun ⟨h1, h2⟩ => ⟨TameO.vv.2 h1, fun r hr => ih r (h2 r hr)⟩
  | shape r k ih => exact fun ⟨h1, h2, h3, h4⟩ => ⟨h1, h2, fun t n => ih _ (h3 t n), fun h => ih _ (h4 h)⟩
  | freeze => exact id
  | frozen a k ih => exact fun h b => ih b (h b)
  | getObj r k ih => exact fun ⟨h1, h2, h3⟩ => ⟨h1.imp id fun h o ho => h o (TameO.vv.1 ho), fun o ho => ih o (h2 o (TameO.vv.1 ho)), fun hg t => ⟨ih _ (h3 hg t).1, (h3 hg t).2⟩⟩
  | setObj r o k ih => exact fun ⟨h1, h2, h3⟩ => ⟨h1, TameO.vv.2 h2, ih h3⟩
  | choose q k ih => exact fun ⟨h1, h2⟩ => ⟨h1, fun n => ih n (h2 n)⟩
  | sys => exact id
  | program k ih => exact fun h => h.imp (fun ⟨h1, h2⟩ => ⟨rfl, by show Tame K.vv A (k K.V); rw [h1]; exact ih _ h2⟩) id
  | mark m k ih => exact fun ⟨h1, h2⟩ => ⟨h1, ih h2⟩
  | halt => exact id
theorem NextOk.vv {n : Next} : NextOk K.vv n ↔ NextOk K n := by cases n <;> exact Iff.rfl
theorem Tame.nx {s : Sem Next} (h : Tame K (NextOk K) s) : Tame K.vv (NextOk K.vv) s := h.vv.mono fun _ => NextOk.vv.2
theorem OpOk.vv {o : Oper} (h : OpOk K o) : OpOk K.vv o := fun ev he => (h ev ⟨he.const, he.tmp, he.global, he.func⟩).nx
theorem CodeOk.vv : ∀ {c : Code}, CodeOk K c → CodeOk K.vv c := by
  intro c
  induction c with
  | seq a b iha ihb => exact fun ⟨h1, h2⟩ => ⟨iha h1, ihb h2⟩
  | cond o a b iha ihb => exact fun ⟨h1, h2⟩ => ⟨iha h1, ihb h2⟩
  | region id ops d => exact fun h i o ho => (h i o ho).vv
  | block n c ih => exact fun h => ih h
  | loop c ih => exact fun h => ih h
  | scope c ih => exact fun h => ih h
  | _ => exact id
theorem ItemOk.vv {x : Item} (h : ItemOk K x) : ItemOk K.vv x := by
  cases x with
  | code c => exact CodeOk.vv (c := c) h
  | inLoop c => exact CodeOk.vv (c := c) h
  | inScope c => exact CodeOk.vv (c := c) h
  | inRegion ops l => exact fun i o ho => (h i o ho).vv
  | _ => exact h
theorem FrOk.vv {fr : Frame} (h : FrOk K fr) : FrOk K.vv fr := ⟨fun x hx => (h.todo x hx).vv, h.defers, h.kind, h.round, rfl, fun fn hf tmps ht => (h.res fn (h.fn ▸ hf) tmps ht).vv, h.tmps⟩
theorem Prune.vv (h : Prune K) : Prune K.vv := ⟨rfl, rfl, fun f fn hf => (h.keep f fn hf).imp (fun ⟨_, h2, h3⟩ => ⟨hf, fun c hc => (h2 c hc).vv, fun t ht => (h3 t ht).vv⟩) id, fun r hr a ha e he => (h.rows r hr a ha e he).nx⟩
theorem VOk.vv {v : World} (h : VOk K v) : VOk K.vv v := ⟨fun b o ho => TameAt.vv.2 (h.tame b o ho), h.shp, h.sz⟩
theorem NextOk.od {X : Nat → TypeId → Obj → Prop} {n : Next} : NextOk (K.od X) n ↔ NextOk K n := by cases n <;> exact Iff.rfl
theorem Tame.nxo {X : Nat → TypeId → Obj → Prop} {s : Sem Next} (h : Tame K (NextOk K) s) : Tame (K.od X) (NextOk (K.od X)) s := h.od.mono fun _ => NextOk.od.2
theorem OpOk.od {X : Nat → TypeId → Obj → Prop} {o : Oper} (h : OpOk K o) : OpOk (K.od X) o := fun ev he => (h ev ⟨he.const, he.tmp, he.global, he.func⟩).nxo
theorem CodeOk.od {X : Nat → TypeId → Obj → Prop} : ∀ {c : Code}, CodeOk K c → CodeOk (K.od X) c := by
  intro c
  induction c with
  | seq a b iha ihb => exact fun ⟨h1, h2⟩ => ⟨iha h1, ihb h2⟩
  | cond o a b iha ihb => exact fun ⟨h1, h2⟩ => ⟨iha h1, ihb h2⟩
  | region id ops d => exact fun h i o ho => (h i o ho).od
  | block n c ih => exact fun h => ih h
  | loop c ih => exact fun h => ih h
  | scope c ih => exact fun h => ih h
  | _ => exact id
theorem ItemOk.od {X : Nat → TypeId → Obj → Prop} {x : Item} (h : ItemOk K x) : ItemOk (K.od X) x := by
  cases x with
  | code c => exact CodeOk.od (c := c) h
  | inLoop c => exact CodeOk.od (c := c) h
  | inScope c => exact CodeOk.od (c := c) h
  | inRegion ops l => exact fun i o ho => (h i o ho).od
  | _ => exact h
theorem FrOk.od {X : Nat → TypeId → Obj → Prop} {fr : Frame} (h : FrOk K fr) : FrOk (K.od X) fr := ⟨fun x hx => (h.todo x hx).od, h.defers, h.kind, h.round, h.fn, fun fn hf tmps ht => (h.res fn hf tmps ht).od, h.tmps⟩
theorem Prune.od {X : Nat → TypeId → Obj → Prop} (h : Prune K) : Prune (K.od X) := ⟨h.tables, h.size, fun f fn hf => (h.keep f fn hf).imp (fun ⟨h1, h2, h3⟩ => ⟨h1, fun c hc => (h2 c hc).od, fun t ht => (h3 t ht).od⟩) id, fun r hr a ha e he => (h.rows r hr a ha e he).nxo⟩
theorem VOk.tp {v : World} (h : VOk K v) (τ : Nat → Question → Nat) (p : Nat) : VOk K (Proofs.YtmmjlngbiilagaaGreatDoor.tp v τ p) := ⟨h.tame, h.shp, h.sz⟩
end

/-- Where a lone run stands: frame, those above the bottom, world. -/
abbrev St := Frame × List Frame × World
def St.final (s : St) : Prop := s.1.mode = .returning ∧ s.2.1 = []
def St.m (s : St) (τ : Nat → Question → Nat) (p : Nat) : Machine := lone s.1 (s.2.1 ++ [bottom]) (tp s.2.2 τ p)
/-- WHATEVER THE ANSWERS, it comes to its return. -/
def Arrives (V : Program) (Fin : Frame → World → Prop) (s : St) : Prop := ∀ (τ : Nat → Question → Nat) (p : Nat), ∃ (τ2 : Nat → Question → Nat) (p2 : Nat), (∀ i, τ (p + i) = τ2 (p2 + i)) ∧ ∃ n fr' v', runN V n (s.m τ2 p2) = .next (lone fr' [bottom] v') ∧ fr'.mode = .returning ∧ Fin fr' v'
structure okS (K : Cfg) (s : St) : Prop where
  fr : FrOk K s.1
  cs : ∀ x ∈ s.2.1, FrOk K x ∧ x.mode = .run
  mode : s.1.mode = .run ∨ s.1.mode = .returning
  vok : VOk K s.2.2
/-- Its next state on these answers, of which it takes c. -/
def NxtB (V : Program) (s : St) (τ : Nat → Question → Nat) (p : Nat) (s' : St) (c : Nat) : Prop :=
  ¬ s.final ∧ ∀ τ' p', (∀ i, i < c → τ (p + i) = τ' (p' + i)) → step V (s.m τ' p') = .next (s'.m τ' (p' + c))
/-- What the true step is. -/
structure Did (K : Cfg) (F : Nat → Prop) (c : Nat) (v w v' w' : World) (es : Array Event) : Prop where
  pois : Pois K F v' w'
  tape : w'.tape = w.tape
  os : w'.os = w.os
  output : w'.output = w.output
  drawn : w'.drawn = w.drawn + c
  size : v.heap.size ≤ v'.heap.size
  keep : ∀ b, F b → w'.heap[b]? = w.heap[b]?
  ev : ∀ e ∈ es, EvT K F v'.heap.size e ∧ ∀ f, e.loc ≠ .mark (.extern f)

theorem tp_heap {v u : World} (h1 : v.heap = u.heap) (h2 : v.os = u.os) (h3 : v.output = u.output) : u = tp v u.tape u.drawn := by
  cases v; cases u; simp_all [tp]

theorem Pois.heap_eq {K : Cfg} {v w : World} (h : Pois K (fun _ => False) v w) (ho : ∀ b t o, K.odds b t o → o = deadV b t) : v.heap = w.heap := Array.ext_getElem? fun b => by
  by_cases hd : ∃ t, v.heap[b]? = some (deadV b t)
  · obtain ⟨t, e⟩ := hd
    obtain ⟨_, o, h1, h2⟩ := h.odd b t e
    rw [e, h1, ho b t o h2.2]
  · exact h.same b id fun t e => hd ⟨t, e⟩

section
variable {K : Cfg} {Fin : Frame → World → Prop} {F : Nat → Prop}
theorem Stp.arr {mp : Bool} {fr : Frame} {l cs : List Frame} {v w : World} (h : Stp K F mp fr l cs v w) (ha : ∃ n fr' v', runN K.V n (lone fr (l ++ [bottom]) v) = .next (lone fr' [bottom] v') ∧ fr'.mode = .returning) (hf : ¬ (fr.mode = .returning ∧ l = [])) :
    ∃ fr' l' v', step K.V (lone fr (l ++ [bottom]) v) = .next (lone fr' (l' ++ [bottom]) v') ∧ FrOk K fr' ∧ (∀ x ∈ l', FrOk K x ∧ x.mode = .run) ∧ (fr'.mode = .run ∨ fr'.mode = .returning) ∧ v.drawn ≤ v'.drawn ∧
    ((∀ i, v.drawn + i < v'.drawn → v.tape (v.drawn + i) = w.tape (w.drawn + i)) → ∃ w' es', stepG K.P mp (G fr (l ++ cs)) w = .go (G fr' (l' ++ cs)) w' es' ∧ Alike K F v w v' w' #[] es' ∧ ∀ e ∈ es', ∀ f, e.loc ≠ .mark (.extern f)) := by
  obtain ⟨n, f1, v1, hn, hm⟩ := ha
  cases n with
  | zero =>
    simp only [runN, Stepped.next.injEq] at hn
    obtain ⟨rfl, h2, _⟩ := lone_inj hn
    exact absurd ⟨hm, by simpa using h2⟩ hf
  | succ n =>
    rcases h with ⟨o, u, h⟩ | ⟨f2, c2, v2, h, hd⟩ | h
    · simp [runN, h] at hn
    · simp only [runN, h] at hn
      exact absurd hn (hd n f1 _ v1 hm)
    · exact h
theorem okS.step (hPr : Prune K) {s : St} (hok : okS K s) (hA : Arrives K.V Fin s) (hf : ¬ s.final) (τ : Nat → Question → Nat) (p : Nat) :
    ∃ (s' : St) (c : Nat), NxtB K.V s τ p s' c ∧ okS K s' ∧ ∀ (mp : Bool) (cs : List Frame) (w : World), Pois K F s.2.2 w → (∀ i, i < c → τ (p + i) = w.tape (w.drawn + i)) →
      ∃ w' es', stepG K.P mp (G s.1 (s.2.1 ++ cs)) w = .go (G s'.1 (s'.2.1 ++ cs)) w' es' ∧ Did K F c s.2.2 w s'.2.2 w' es' := by
  obtain ⟨fr, l, v⟩ := s
  have hm : fr.mode = .run ∨ fr.mode = .returning ∧ l ≠ [] := hok.mode.imp id fun h => ⟨h, fun e => hf ⟨h, e⟩⟩
  have hmf : ¬ (fr.mode = .returning ∧ l = []) := hf
  obtain ⟨τ2, p2, hτ, n, f1, v1, hn, hm1, _⟩ := hA τ p
  have harr : ∃ n fr' v', runN K.V n (lone fr (l ++ [bottom]) (tp v τ2 p2)) = .next (lone fr' [bottom] v') ∧ fr'.mode = .returning := ⟨n, f1, v1, hn, hm1⟩
  have htp : ∀ τ p, VOk K (tp v τ p) := fun τ p => hok.vok.tp τ p
  have hvv : ∀ x ∈ l, FrOk K.vv x ∧ x.mode = .run := fun x hx => ⟨(hok.cs x hx).1.vv, (hok.cs x hx).2⟩
  have hVV : ∀ τ' p', Stp K.vv (fun _ => False) true fr l [bottom] (tp v τ2 p2) (tp v τ' p') := fun τ' p' =>
    step_tame hPr.vv (F := fun _ => False) [bottom] (Pois.selfX (K := K.vv) (fun _ _ => rfl) (htp τ2 p2).vv rfl rfl rfl) hok.fr.vv hvv hm
  have hVP : ∀ mp cs w, Pois K F v w → Stp K F mp fr l cs (tp v τ2 p2) w := fun mp cs w hp =>
    step_tame hPr cs ⟨hp.size, hp.os, hp.output, hp.same, hp.odd, hp.foreign, hp.frozen, hp.tame, hp.row, hp.own, hp.fb, hp.disj, hp.sz⟩ hok.fr hok.cs hm
  obtain ⟨fr', l', v', hst, hfr', hl', hm', hd, hself⟩ := (hVV τ2 p2).arr harr hmf
  replace hst : Go.step K.V (lone fr (l ++ [bottom]) (tp v τ2 p2)) = .next (lone fr' (l' ++ [bottom]) v') := hst
  obtain ⟨w0, es0, _, hal, _⟩ := hself fun _ _ => rfl
  have htv' : VOk K v' := ⟨fun b o ho => TameAt.vv.1 (hal.pois.tame b o ho), hal.pois.vok.shp, hal.pois.sz⟩
  have hd' : p2 ≤ v'.drawn := hd
  have hP0 : FrOk K fr' ∧ (∀ x ∈ l', FrOk K x ∧ x.mode = .run) := by
    obtain ⟨f2, l2, v2, hst2, hf2, hl2, _⟩ := (step_tame (K := K.od selfO) (mp := true) hPr.od (F := fun _ => False) [bottom] (v := tp v τ2 p2) (w := tp v τ2 p2) (Pois.self (htp τ2 p2)) hok.fr.od (fun x hx => ⟨(hok.cs x hx).1.od, (hok.cs x hx).2⟩) hm).arr harr hmf
    replace hst2 : Go.step K.V (lone fr (l ++ [bottom]) (tp v τ2 p2)) = .next (lone f2 (l2 ++ [bottom]) v2) := hst2
    replace hf2 : FrOk K f2 := FrOk.od (K := K.od selfO) (X := K.odds) hf2
    replace hl2 : ∀ x ∈ l2, FrOk K x ∧ x.mode = .run := fun x hx => ⟨FrOk.od (K := K.od selfO) (X := K.odds) (hl2 x hx).1, (hl2 x hx).2⟩
    replace hst2 := hst.symm.trans hst2
    simp only [Stepped.next.injEq] at hst2
    obtain ⟨rfl, e2, rfl⟩ := lone_inj hst2
    obtain rfl := List.append_cancel_right e2
    exact ⟨hf2, hl2⟩
  refine ⟨(fr', l', v'), v'.drawn - p2, ⟨hf, fun τ' p' hag => ?_⟩, ⟨hP0.1, hP0.2, hm', htv'⟩, fun mp cs w hp hag => ?_⟩
  · obtain ⟨f2, l2, v2, hst2, _, _, _, _, h2⟩ := (hVV τ' p').arr harr hmf
    replace hst2 := hst.symm.trans hst2
    simp only [Stepped.next.injEq] at hst2
    obtain ⟨rfl, e2, rfl⟩ := lone_inj hst2
    obtain rfl := List.append_cancel_right e2
    obtain ⟨w', es', hgo, hal', hex⟩ := h2 fun i hi => by
      have hi' : p2 + i < v'.drawn := hi
      show τ2 (p2 + i) = τ' (p' + i)
      rw [← hτ i]
      exact hag i (by omega)
    have hw' : w' = tp v' τ' (p' + (v'.drawn - p2)) := by
      obtain ⟨c, d1, d2⟩ := hal'.drawn
      have e1 := tp_heap (hal'.pois.heap_eq fun _ _ _ h => h) hal'.pois.os hal'.pois.output
      have e2 : w'.tape = τ' := hal'.wt.1
      have e3 : w'.drawn = p' + (v'.drawn - p2) := by
        have d1' : v'.drawn = p2 + c := d1
        have d2' : w'.drawn = p' + c := d2
        omega
      rw [e2, e3] at e1
      exact e1
    show Go.step K.V (lone fr (l ++ [bottom]) (tp v τ' p')) = .next (lone fr' (l' ++ [bottom]) (tp v' τ' (p' + (v'.drawn - p2))))
    rw [← hw']
    refine step_lone_go ?_
    replace hgo : stepG K.V true (G fr (l ++ [bottom])) (tp v τ' p') = .go (G fr' (l' ++ [bottom])) w' es' := hgo
    simp only [G] at hgo
    rw [hgo]
    rfl
  · obtain ⟨f2, l2, v2, hst2, hf2, hl2, _, _, h2⟩ := (hVP mp cs w hp).arr harr hmf
    replace hst2 := hst.symm.trans hst2
    simp only [Stepped.next.injEq] at hst2
    obtain ⟨rfl, e2, rfl⟩ := lone_inj hst2
    obtain rfl := List.append_cancel_right e2
    obtain ⟨w', es', hgo, hal', hex⟩ := h2 fun i hi => by
      have hi' : p2 + i < v'.drawn := hi
      show τ2 (p2 + i) = w.tape (w.drawn + i)
      rw [← hτ i]
      exact hag i (by omega)
    obtain ⟨c, d1, d2⟩ := hal'.drawn
    have d1' : v'.drawn = p2 + c := d1
    refine ⟨w', es', hgo, hal'.pois, hal'.wt.1, hal'.wt.2.1, hal'.wt.2.2, by show w'.drawn = w.drawn + (v'.drawn - p2); omega, hal'.size, hal'.keep, fun e he => ⟨(hal'.ev e he).elim (fun h => by simp at h) id, hex e he⟩⟩

/-- The answers of this step, then others. -/
theorem NxtB.arrives {s s' : St} {τ : Nat → Question → Nat} {p c : Nat} (h : NxtB K.V s τ p s' c) (hA : Arrives K.V Fin s) : Arrives K.V Fin s' := by
  intro τ' p'
  obtain ⟨hf, hst⟩ := h
  obtain ⟨τ2, p2, hτ, n, f1, v1, hn, hm, hF⟩ := hA (fun x => if x < c then τ (p + x) else τ' (p' + (x - c))) 0
  have hs := hst τ2 p2 fun i hi => by
    have := hτ i
    simp only [Nat.zero_add, if_pos hi] at this
    exact this
  cases n with
  | zero =>
    simp only [runN, Stepped.next.injEq] at hn
    obtain ⟨h1, h2, _⟩ := lone_inj hn
    exact absurd ⟨by rw [h1]; exact hm, by simpa using h2⟩ hf
  | succ n =>
    simp only [runN, hs] at hn
    refine ⟨τ2, p2 + c, fun i => ?_, n, f1, v1, hn, hm, hF⟩
    have := hτ (c + i)
    simp only [Nat.zero_add, if_neg (show ¬ c + i < c by omega), Nat.add_sub_cancel_left] at this
    rw [this, Nat.add_assoc]

/-- Steps from s on some tape. -/
def Suc (K : Cfg) (s' s : St) : Prop := ∃ τ p c, NxtB K.V s τ p s' c ∧ okS K s'

theorem acc_suc {s : St} (hA : Arrives K.V Fin s) : Acc (Suc K) s := by
  classical
  refine Classical.byContradiction fun hna => ?_
  have hex : ∀ x : { s : St // ¬ Acc (Suc K) s }, ∃ y : { s : St // ¬ Acc (Suc K) s }, Suc K y.1 x.1 := fun ⟨x, hx⟩ =>
    Classical.byContradiction fun hno => hx ⟨_, fun y hy => Classical.byContradiction fun hny => hno ⟨⟨y, hny⟩, hy⟩⟩
  let f : Nat → { s : St // ¬ Acc (Suc K) s } := fun n => Nat.rec ⟨s, hna⟩ (fun _ x => (hex x).choose) n
  have hS : ∀ n, ∃ τ p c, NxtB K.V (f n).1 τ p (f (n + 1)).1 c := fun n => by
    obtain ⟨τ, p, c, h, _⟩ := (hex (f n)).choose_spec
    exact ⟨τ, p, c, h⟩
  let τ : Nat → Nat → Question → Nat := fun n => (hS n).choose
  let p : Nat → Nat := fun n => (hS n).choose_spec.choose
  let c : Nat → Nat := fun n => (hS n).choose_spec.choose_spec.choose
  have hN : ∀ n, NxtB K.V (f n).1 (τ n) (p n) (f (n + 1)).1 (c n) := fun n => (hS n).choose_spec.choose_spec.choose_spec
  let q : Nat → Nat := fun n => Nat.rec 0 (fun n x => x + c n) n
  have hq : ∀ n, q (n + 1) = q n + c n := fun n => rfl
  have hmono : ∀ a b, a ≤ b → q a ≤ q b := fun a b h => by
    induction b with
    | zero => obtain rfl : a = 0 := by omega
              exact Nat.le_refl _
    | succ b ih =>
      rcases Nat.lt_or_ge a (b + 1) with h' | h'
      · exact Nat.le_trans (ih (by omega)) (by rw [hq]; omega)
      · obtain rfl : a = b + 1 := by omega
        exact Nat.le_refl _
  let T : Nat → Question → Nat := fun x => if h : ∃ j, q j ≤ x ∧ x < q (j + 1) then τ h.choose (p h.choose + (x - q h.choose)) else fun _ => 0
  have hT : ∀ k i, i < c k → T (q k + i) = τ k (p k + i) := fun k i hi => by
    have hj : ∃ j, q j ≤ q k + i ∧ q k + i < q (j + 1) := ⟨k, by omega, by rw [hq]; omega⟩
    have e : hj.choose = k := by
      obtain ⟨h1, h2⟩ := hj.choose_spec
      rcases Nat.lt_trichotomy hj.choose k with h | h | h
      · have := hmono (hj.choose + 1) k h; omega
      · exact h
      · have := hmono (k + 1) hj.choose h; rw [hq] at this; omega
    simp only [T, dif_pos hj, e, Nat.add_sub_cancel_left]
  obtain ⟨τ2, p2, hτ, n, f1, v1, hn, hm, _⟩ := hA T 0
  have hrun : ∀ k, runN K.V k (s.m τ2 p2) = .next ((f k).1.m τ2 (p2 + q k)) := fun k => by
    induction k with
    | zero => rfl
    | succ k ih =>
      rw [runN_add, ih]
      have := (hN k).2 τ2 (p2 + q k) fun i hi => by
        rw [← hT k i hi, Nat.add_assoc, ← hτ (q k + i), Nat.zero_add]
      simp only [runN, this, hq, Nat.add_assoc]
  rw [hrun n] at hn
  simp only [Stepped.next.injEq] at hn
  obtain ⟨h1, h2, _⟩ := lone_inj hn
  exact (hN n).1 ⟨by rw [h1]; exact hm, by simpa using h2⟩
end
end Go.Proofs.YtmmjlngbiilagaaGreatDoor

/-
  FINITELY MANY OUTCOMES.
-/
namespace Go.Proofs.YtmmjlngbiilagaaGreatDoor
open Go Go.Conc

/-- All lists of at most k numbers below n. -/
def upTo (n : Nat) : Nat → List (List Nat)
  | 0 => [[]]
  | k + 1 => [] :: (List.range n).flatMap fun i => (upTo n k).map (i :: ·)
theorem mem_upTo {n : Nat} : ∀ {k : Nat} {l : List Nat}, l.length ≤ k → (∀ x ∈ l, x < n) → l ∈ upTo n k := by
  intro k
  induction k with
  | zero => intro l h _; cases l with
    | nil => simp [upTo]
    | cons => simp at h
  | succ k ih =>
    intro l h hx
    cases l with
    | nil => simp [upTo]
    | cons x l =>
      refine List.mem_cons_of_mem _ (List.mem_flatMap.2 ⟨x, List.mem_range.2 (hx x (List.mem_cons_self ..)), List.mem_map.2 ⟨l, ih (by simpa using h) fun y hy => hx y (List.mem_cons_of_mem _ hy), rfl⟩⟩)
theorem linearise_go_le (md : Region.Mode) (ops : Array Oper) : ∀ (fuel t : Nat) (listed : Array Bool) (acc : List Nat), (∀ x ∈ acc, x < ops.size) →
    (Region.linearise.go md ops fuel t listed acc).length ≤ fuel + acc.length ∧ ∀ x ∈ Region.linearise.go md ops fuel t listed acc, x < ops.size := by
  intro fuel
  induction fuel with
  | zero => intro t listed acc h; simp only [Region.linearise.go]; exact ⟨by simp, fun x hx => h x (List.mem_reverse.1 hx)⟩
  | succ fuel ih =>
    intro t listed acc h
    simp only [Region.linearise.go]
    split
    · rename_i i hi
      have hlt : i < ops.size := by
        have := List.mem_of_getElem? hi
        exact List.mem_range.1 (List.mem_filter.1 this).1
      have ih' := fun t' => ih t' (listed.setIfInBounds i true) (i :: acc) (fun x hx => (List.mem_cons.1 hx).elim (fun e => e ▸ hlt) (h x))
      refine ⟨?_, (ih' _).2⟩
      refine Nat.le_trans (ih' _).1 ?_
      simp only [List.length_cons]
      omega
    · exact ⟨by simp, fun x hx => h x (List.mem_reverse.1 hx)⟩
theorem schedule_mem (m : Bool) (ops : Array Oper) (t : Nat) : Region.schedule m ops t ∈ upTo ops.size ops.size := by
  have key : ∀ md t, Region.linearise md ops t ∈ upTo ops.size ops.size := fun md t => by
    obtain ⟨h1, h2⟩ := linearise_go_le md ops ops.size t (Array.replicate ops.size false) [] (by simp)
    exact mem_upTo (l := Region.linearise md ops t) h1 h2
  unfold Region.schedule
  split <;> exact key _ _

/-- An end without its tape. -/
def er {α : Type} (r : Result α) : Result α := withW (tp (wOf r) (fun _ _ => 0) 0) r
theorem tame_fin {K : Cfg} {α : Type} {A : α → Prop} : ∀ {s : Sem α}, Tame K A s → ∀ v : World, VOk K v → ∃ L : List (Result α), ∀ τ p, er (s.run K.V (tp v τ p)) ∈ L := by
  intro s
  induction s with
  | pure a => exact fun _ v _ => ⟨[er (.ok a v)], fun τ p => List.mem_singleton.2 rfl⟩
  | load m a k ih =>
    rintro ⟨_, hk⟩ v hv
    cases hx : v.cell? a with
    | some x =>
      obtain ⟨L, hL⟩ := ih x (hk x (hv.tame.cell hx)) v hv
      exact ⟨L, fun τ p => by
        have : (tp v τ p).cell? a = some x := hx
        simp only [Sem.run, this]
        exact hL τ p⟩
    | none =>
      cases hf : v.farLoad K.V a (m == .atomic) with
      | ok x =>
        obtain ⟨k0, e0, _⟩ := far_dead hv.tame K.V a (m == .atomic)
        rw [hf] at e0
        cases e0
      | error h =>
        exact ⟨[er (.halt h v)], fun τ p => by
          have h1 : (tp v τ p).cell? a = none := hx
          have h2 : (tp v τ p).farLoad K.V a (m == .atomic) = .error h := hf
          simp only [Sem.run, h1, h2]
          exact List.mem_singleton.2 rfl⟩
  | store m a x k ih =>
    rintro ⟨_, hxv, hk⟩ v hv
    have key : (∀ xs, x ≠ .agg xs) → (∀ xs, x ≠ .tuple xs) → ∃ L : List (Result α), ∀ τ p, er ((Sem.store m a x k).run K.V (tp v τ p)) ∈ L := by
      intro n1 n2
      have hun : ∀ τ p, (Sem.store m a x k).run K.V (tp v τ p) = match (tp v τ p).cell? a with
          | some _ => if (tp v τ p).frozen? a then .halt (.unsupported (.unsafePointer "a write to bytes that a string shares")) (tp v τ p) else k.run K.V ((tp v τ p).setCell a x)
          | none => match (tp v τ p).farStore K.V a x (m == .atomic) with
            | .ok (w, _) => k.run K.V w
            | .error h => .halt h (tp v τ p) := fun τ p => by
        rw [Sem.run]
        · rfl
        · exact n1
        · exact n2
      obtain ⟨L, hL⟩ := ih hk (v.setCell a x) (hv.setCell a hxv)
      cases hx : v.cell? a with
      | some y =>
        refine ⟨er (.halt (.unsupported (.unsafePointer "a write to bytes that a string shares")) v) :: L, fun τ p => ?_⟩
        have h1 : (tp v τ p).cell? a = some y := hx
        rw [hun, h1]
        simp only
        split
        · exact List.mem_cons_self ..
        · exact List.mem_cons_of_mem _ (hL τ p)
      | none =>
        have hfar : ∃ h, ∀ τ p, (tp v τ p).farStore K.V a x (m == .atomic) = .error h := by
          by_cases hd : ∃ u, v.heap[a.block]? = some (deadV a.block u)
          · obtain ⟨u, hb⟩ := hd
            have key0 : ∃ why, ∀ τ p, (tp v τ p).viewStore K.V ⟨a.block, 0, none⟩ 0 a x (m == .atomic) = .error why := by
              obtain ⟨why, e⟩ := seen_dead hb K.V 0 a (m == .atomic)
              cases ht : tight K.V K.V.depth 0
              · exact ⟨_, fun τ p => by unfold World.viewStore; rw [ht]; rfl⟩
              · exact ⟨why, fun τ p => by
                  have e' : (tp v τ p).seen K.V ⟨a.block, 0, none⟩ 0 a (m == .atomic) = .error why := e
                  unfold World.viewStore
                  rw [ht, e']
                  rfl⟩
            obtain ⟨why, hw⟩ := key0
            refine ⟨.unsupported (.unsafePointer why), fun τ p => ?_⟩
            have h1 : (tp v τ p).heap[a.block]? = some (.view ⟨a.block, 0, none⟩ 0) := hb
            unfold World.farStore
            rw [h1]
            simp only [hw τ p]
          · refine ⟨v.noCell a "store: no such cell", fun τ p => ?_⟩
            unfold World.farStore
            split
            · rename_i at_ u hb
              rcases hv.tame _ _ hb with h | ⟨_, t, h⟩
              · exact h.elim
              · exact absurd ⟨t, by rw [← h]; exact hb⟩ hd
            · rfl
        obtain ⟨h, hf⟩ := hfar
        refine ⟨[er (.halt h v)], fun τ p => ?_⟩
        have h1 : (tp v τ p).cell? a = none := hx
        rw [hun, h1]
        simp only [hf]
        exact List.mem_singleton.2 rfl
    cases x with
    | agg xs => exact ⟨[er (.halt (.stuck "store: not the value of one cell") v)], fun τ p => List.mem_singleton.2 rfl⟩
    | tuple xs => exact ⟨[er (.halt (.stuck "store: not the value of one cell") v)], fun τ p => List.mem_singleton.2 rfl⟩
    | _ => exact key (by intro _ h; cases h) (by intro _ h; cases h)
  | new o k ih =>
    rintro ⟨ho, hk⟩ v hv
    obtain ⟨L, hL⟩ := ih v.heap.size (hk _ hv.sz) { v with heap := v.heap.push o } (hv.push ho)
    exact ⟨L, fun τ p => hL τ p⟩
  | shape q k ih =>
    rintro ⟨_, _, h3, h4⟩ v hv
    cases hs : v.shape? q with
    | none =>
      obtain ⟨L, hL⟩ := ih _ (h4 (hv.shp q hs)) v hv
      exact ⟨L, fun τ p => by
        have h1 : (tp v τ p).shape? q = none := hs
        simp only [Sem.run, h1]
        exact hL τ p⟩
    | some x =>
      obtain ⟨L, hL⟩ := ih _ (h3 x.1 x.2) v hv
      exact ⟨L, fun τ p => by
        have h1 : (tp v τ p).shape? q = some (x.1, x.2) := hs
        simp only [Sem.run, h1]
        exact hL τ p⟩
  | freeze => exact False.elim
  | frozen a k ih =>
    rintro hk v hv
    obtain ⟨L, hL⟩ := ih (v.frozen? a) (hk _) v hv
    exact ⟨L, fun τ p => hL τ p⟩
  | getObj b k ih =>
    rintro ⟨_, hk, hkd⟩ v hv
    cases ho : v.heap[b]? with
    | none => exact ⟨[er (.halt (.stuck "getObj: no such block") v)], fun τ p => by
        have h1 : (tp v τ p).heap[b]? = none := ho
        simp only [Sem.run, h1]
        exact List.mem_singleton.2 rfl⟩
    | some o =>
      obtain ⟨L, hL⟩ := ih o ((hv.tame _ _ ho).elim (hk o) fun ⟨hg, t, e⟩ => by subst e; exact (hkd hg t).1) v hv
      refine ⟨er (.halt (.stuck "getObj: a row of cells") v) :: L, fun τ p => ?_⟩
      have h1 : (tp v τ p).heap[b]? = some o := ho
      simp only [Sem.run, h1]
      split
      · exact List.mem_cons_self ..
      · rename_i h2
        cases h2
        exact List.mem_cons_of_mem _ (hL τ p)
      · rename_i h2
        cases h2
  | setObj b o k ih =>
    rintro ⟨hg, hto, hk⟩ v hv
    obtain ⟨L, hL⟩ := ih hk { v with heap := v.heap.setIfInBounds b o } (hv.set hg b hto)
    refine ⟨er (.halt (.stuck "setObj: a row of cells") v) :: er (.halt (.stuck "setObj: no such block") v) :: L, fun τ p => ?_⟩
    simp only [Sem.run]
    split
    · exact List.mem_cons_self ..
    · exact List.mem_cons_of_mem _ (List.mem_cons_of_mem _ (hL τ p))
    · exact List.mem_cons_of_mem _ (List.mem_cons_self ..)
  | choose q k ih =>
    rintro ⟨hq, hk⟩ v hv
    obtain ⟨b, hb⟩ := hq.bound
    have hall : ∃ f : Nat → List (Result α), ∀ n τ p, er ((k n).run K.V (tp v τ p)) ∈ f n := ⟨fun n => (ih n (hk n) v hv).choose, fun n => (ih n (hk n) v hv).choose_spec⟩
    obtain ⟨f, hf⟩ := hall
    refine ⟨f 0 ++ (List.range b).flatMap f, fun τ p => ?_⟩
    simp only [Sem.run]
    split
    · exact List.mem_append_left _ (hf 0 τ p)
    · exact List.mem_append_right _ (List.mem_flatMap.2 ⟨_, List.mem_range.2 (hb (τ p q)), hf _ τ (p + 1)⟩)
  | sys => exact False.elim
  | program k ih =>
    rintro hk v hv
    rcases hk with ⟨h1, hk⟩ | hd
    · obtain ⟨L, hL⟩ := ih _ hk v hv
      exact ⟨L, fun τ p => by simp only [Sem.run, h1]; exact hL τ p⟩
    · have hone : ∃ h, ∀ u : World, (k K.V).run K.V u = .halt h u := by
        revert hd
        generalize k K.V = s
        clear ih
        induction s with
        | mark m k' ih' => exact fun hd => ih' hd
        | halt h => exact fun _ => ⟨h, fun u => rfl⟩
        | _ => exact False.elim
      obtain ⟨h, hh⟩ := hone
      exact ⟨[er (.halt h v)], fun τ p => by simp only [Sem.run, hh]; exact List.mem_singleton.2 rfl⟩
  | mark m k ih =>
    rintro ⟨_, hk⟩ v hv
    obtain ⟨L, hL⟩ := ih hk v hv
    exact ⟨L, fun τ p => hL τ p⟩
  | halt h => exact fun _ v _ => ⟨[er (.halt h v)], fun τ p => List.mem_singleton.2 rfl⟩
end Go.Proofs.YtmmjlngbiilagaaGreatDoor
