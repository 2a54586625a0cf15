/-
  A STEP HAS FINITELY MANY OUTCOMES; THE WAY IN COMPANY, WITH ITS NUMBER.
-/
import Derived.Test.YtmmjlngbiilagaaGreatDoorT10
import Derived.Conc.Starve
import Derived.Conc.Company

namespace Go.Proofs.YtmmjlngbiilagaaGreatDoor
open Go Go.Conc

def t0 : Nat → Question → Nat := fun _ _ => 0
/-- What a step comes to, without its tape. -/
def erS : Stepped → Option Machine
  | .next m => some { m with world := tp m.world t0 0 }
  | .ended .. => none

section
variable {K : Cfg} {fr : Frame}
theorem erS_lone (fr : Frame) (cs : List Frame) (u : World) : erS (.next (lone fr cs u)) = some (lone fr cs (tp u t0 0)) := rfl

/-- By a tame meaning. -/
theorem fin_apply {l : List Frame} {v : World} (hv : VOk K v) (hfr : FrOk K fr) {s : Sem Next} (hs : Tame K (NextOk K) s)
    (h : ∀ u : World, stepG K.V true (G fr (l ++ [bottom])) u = stepG.apply K.V true fr (l ++ [bottom]) none s u) (hrow : (∃ ops i k, fr.todo = .inRegion ops i :: k) ∨ ∃ r a k, fr.todo = .extern r a :: k) :
    ∃ L : List (Option Machine), ∀ τ p, erS (step K.V (lone fr (l ++ [bottom]) (tp v τ p))) ∈ L := by
  obtain ⟨L, hL⟩ := tame_fin hs v hv
  let Ψ : Result Next → Option Machine := fun r => match r with
    | .ok (.value x) u => some (lone (fr.finish x) (l ++ [bottom]) (tp u t0 0))
    | .ok .skip u => some (lone (fr.finish undef) (l ++ [bottom]) (tp u t0 0))
    | .ok (.enter f args) u => some (lone (Frame.enter K.V f args .normal) (fr :: (l ++ [bottom])) (tp u t0 0))
    | .ok (.row rn args) u => match fr.todo with
      | .extern _ _ :: k => some (lone { fr with todo := .extern rn args :: k } (l ++ [bottom]) (tp u t0 0))
      | _ => some (lone (Frame.ofRow K.V rn args .normal) (fr :: (l ++ [bottom])) (tp u t0 0))
    | .halt (.panic x) u => some (lone (fr.raise [{ v := x, recovered := false }]) (l ++ [bottom]) (tp u t0 0))
    | _ => none
  have hne : (fr.kind == CallKind.early) = false := by rw [hfr.kind]; rfl
  refine ⟨L.map Ψ, fun τ p => List.mem_map.2 ⟨_, hL τ p, ?_⟩⟩
  have hV := h (tp v τ p)
  simp only [G] at hV
  rcases hr : s.runT K.V (tp v τ p) #[] with ⟨r, es⟩
  have hr1 : s.run K.V (tp v τ p) = r := by simpa using congrArg Prod.fst hr
  have hr2 : s.events K.V (tp v τ p) #[] = es := by simpa using congrArg Prod.snd hr
  rw [hr1]
  have go : ∀ {fr' : Frame} {cs' : List Frame} {u : World}, stepG.apply K.V true fr (l ++ [bottom]) none s (tp v τ p) = .go (G fr' cs') u (seen K.V fr.fn es ++ #[]) → erS (step K.V (lone fr (l ++ [bottom]) (tp v τ p))) = some (lone fr' cs' (tp u t0 0)) := fun {fr' cs' u} e => by
    rw [step_lone_go (fr' := fr') (cs' := cs') (w' := u) (by rw [hV, e]; rfl)]
    rfl
  have dead : ∀ {o : Outcome} {u : World}, (stepG.apply K.V true fr (l ++ [bottom]) none s (tp v τ p)).bare = .ended o u → erS (step K.V (lone fr (l ++ [bottom]) (tp v τ p))) = none := fun {o u} e => by
    rw [step_lone_ended (o := o) (w' := u) (by rw [hV]; exact e)]
    rfl
  cases r with
  | halt hh u =>
    have hk := (tame_drawn hs (tp v τ p) #[] _ _ (hv.tp τ p) hr).2 hh u rfl
    cases hh with
    | panic x => exact (go (fr' := fr.raise [{ v := x, recovered := false }]) (cs' := l ++ [bottom]) (u := u) (by simp only [stepG.apply, if_true, hr1, Sem.runT_eq, hr2, hne, Bool.false_eq_true, if_false, after_go, G])).symm
    | stuck m => exact (dead (u := u) (by simp [stepG.apply, hr1, GStep.after]; rfl)).symm
    | unsupported un =>
      cases un with
      | initOrder g => exact hk.elim
      | _ => exact (dead (u := u) (by simp [stepG.apply, hr1, GStep.after]; rfl)).symm
    | _ => exact hk.elim
  | ok nx u =>
    have hA := tame_ok hs (hv.tp τ p) hr trivial
    cases nx with
    | value x => exact (go (fr' := fr.finish x) (cs' := l ++ [bottom]) (u := u) (by simp only [stepG.apply, if_true, hr1, Sem.runT_eq, hr2, hne, Bool.false_eq_true, if_false, after_go, G])).symm
    | skip => exact (go (fr' := fr.finish undef) (cs' := l ++ [bottom]) (u := u) (by simp only [stepG.apply, if_true, hr1, Sem.runT_eq, hr2, hne, Bool.false_eq_true, if_false, after_go, G])).symm
    | enter f args =>
      refine (go (fr' := Frame.enter K.V f args .normal) (cs' := fr :: (l ++ [bottom])) (u := u) ?_).symm
      simp only [stepG.apply, if_true, hr1, Sem.runT_eq, hr2, hne, Bool.false_eq_true, if_false, after_go, G]
      rcases hrow with ⟨_, _, _, e⟩ | ⟨_, _, _, e⟩ <;> simp only [e]
    | row rn args =>
      rcases hrow with ⟨ops, i, k, e⟩ | ⟨r', a, k, e⟩
      · have e2 : Ψ (er (.ok (.row rn args) u)) = some (lone (Frame.ofRow K.V rn args .normal) (fr :: (l ++ [bottom])) (tp u t0 0)) := by simp only [Ψ, er, withW, wOf, e]; rfl
        rw [e2]
        refine (go (fr' := Frame.ofRow K.V rn args .normal) (cs' := fr :: (l ++ [bottom])) (u := u) ?_).symm
        simp only [stepG.apply, if_true, hr1, Sem.runT_eq, hr2, hne, Bool.false_eq_true, if_false, after_go, G, e]
      · have e2 : Ψ (er (.ok (.row rn args) u)) = some (lone { fr with todo := .extern rn args :: k } (l ++ [bottom]) (tp u t0 0)) := by simp only [Ψ, er, withW, wOf, e]; rfl
        rw [e2]
        refine (go (fr' := { fr with todo := .extern rn args :: k }) (cs' := l ++ [bottom]) (u := u) ?_).symm
        simp only [stepG.apply, if_true, hr1, Sem.runT_eq, hr2, hne, Bool.false_eq_true, if_false, after_go, G, e]
    | _ => exact hA.elim

/-- EVERY STEP. -/
theorem fin_step {s : St} (hok : okS K s) (hPr : Prune K) : ∃ L : List (Option Machine), ∀ τ p, erS (step K.V (s.m τ p)) ∈ L := by
  obtain ⟨fr, l, v⟩ := s
  have hfr := hok.fr
  have hr := hfr.round
  simp only at hfr hr
  have hv : VOk K v := hok.vok
  show ∃ L : List (Option Machine), ∀ τ p, erS (step K.V (lone fr (l ++ [bottom]) (tp v τ p))) ∈ L
  have still : ∀ (fr' : Frame) (cs' : List Frame), (∀ u : World, stepG K.V true (G fr (l ++ [bottom])) u = .go (G fr' cs') u #[]) → ∃ L : List (Option Machine), ∀ τ p, erS (step K.V (lone fr (l ++ [bottom]) (tp v τ p))) ∈ L := fun fr' cs' h =>
    ⟨[some (lone fr' cs' (tp v t0 0))], fun τ p => by
      rw [step_lone_go (fr' := fr') (cs' := cs') (w' := tp v τ p) (by have := h (tp v τ p); simp only [G] at this; rw [this]; rfl)]
      exact List.mem_singleton.2 rfl⟩
  have dead : ∀ (o : Outcome), (∀ u : World, (stepG K.V true (G fr (l ++ [bottom])) u).bare = .ended o u) → ∃ L : List (Option Machine), ∀ τ p, erS (step K.V (lone fr (l ++ [bottom]) (tp v τ p))) ∈ L := fun o h =>
    ⟨[none], fun τ p => by
      rw [step_lone_ended (o := o) (w' := tp v τ p) (h (tp v τ p))]
      exact List.mem_singleton.2 rfl⟩
  rcases hok.mode with hm | hm
  · simp only at hm
    cases ht : fr.todo with
    | nil => exact still { fr with mode := .returning } (l ++ [bottom]) fun u => by simp [stepG, stepG.exec, hm, ht, hr, G]
    | cons x k =>
      have hx : ItemOk K x := hfr.todo x (by rw [ht]; exact List.mem_cons_self ..)
      cases x with
      | code c =>
        cases c with
        | skip => exact still { fr with todo := k } (l ++ [bottom]) fun u => by simp [stepG, stepG.exec, hm, ht, G]
        | label n => exact still { fr with todo := k } (l ++ [bottom]) fun u => by simp [stepG, stepG.exec, hm, ht, G]
        | ret => exact still { fr with mode := .returning } (l ++ [bottom]) fun u => by simp [stepG, stepG.exec, hm, ht, hr, G]
        | seq a b => exact still { fr with todo := .code a :: .code b :: k } (l ++ [bottom]) fun u => by simp [stepG, stepG.exec, hm, ht, G]
        | cond c a b =>
          cases he : fr.eval c with
          | bool t => exact still { fr with todo := .code (if t then a else b) :: k } (l ++ [bottom]) fun u => by simp [stepG, stepG.exec, hm, ht, G, he]
          | _ => exact dead (.stuck "cond: bool expected" (fr.pos K.V)) fun u => by simp [stepG, stepG.exec, hm, ht, he, G]
        | block n c => exact still { fr with todo := .code c :: .inBlock n :: k } (l ++ [bottom]) fun u => by simp [stepG, stepG.exec, hm, ht, G]
        | loop c => exact still { fr with todo := .code c :: .inLoop c :: k } (l ++ [bottom]) fun u => by simp [stepG, stepG.exec, hm, ht, G]
        | scope c => exact still { fr with todo := .code c :: .inScope c :: k } (l ++ [bottom]) fun u => by simp [stepG, stepG.exec, hm, ht, G]
        | exit n =>
          cases he : exitTo n k with
          | none => exact dead (.stuck "exit, goto: no such block or label" (fr.pos K.V)) fun u => by simp [stepG, stepG.exec, hm, ht, he, hr, G]
          | some k' => exact still { fr with todo := k' } (l ++ [bottom]) fun u => by simp [stepG, stepG.exec, hm, ht, G, he]
        | refuse s => exact dead _ fun u => by simp [stepG, stepG.exec, hm, ht, G]; rfl
        | rangeFunc => exact False.elim hx
        | goto => exact False.elim hx
        | region id ops draw =>
          cases draw with
          | false => exact still { fr with todo := .inRegion ops (List.range ops.size) :: k } (l ++ [bottom]) fun u => by simp [stepG, stepG.exec, hm, ht, G]
          | true =>
            refine ⟨(upTo ops.size ops.size).map fun o => some (lone { fr with todo := .inRegion ops o :: k } (l ++ [bottom]) (tp v t0 0)), fun τ p => List.mem_map.2 ⟨_, schedule_mem (K.V.follows .mixedOrders) ops (τ p (.order fr.fn id)), ?_⟩⟩
            have hch : (choose (.order fr.fn id)).run K.V (tp v τ p) = .ok (τ p (.order fr.fn id)) (tp v τ (p + 1)) := by
              simp [choose, Sem.run, Question.forced, Question.cut, tp]
            rw [step_lone_go (fr' := { fr with todo := .inRegion ops (Region.schedule (K.V.follows .mixedOrders) ops (τ p (.order fr.fn id))) :: k }) (cs' := l ++ [bottom]) (w' := tp v τ (p + 1)) (by simp only [stepG, hm, stepG.exec, ht, hch]; rfl)]
            rfl
      | inBlock n => exact still { fr with todo := k } (l ++ [bottom]) fun u => by simp [stepG, stepG.exec, hm, ht, G]
      | inScope c => exact still { fr with todo := k } (l ++ [bottom]) fun u => by simp [stepG, stepG.exec, hm, ht, G]
      | inLoop c => exact still { fr with todo := .code c :: .inLoop c :: k } (l ++ [bottom]) fun u => by simp [stepG, stepG.exec, hm, ht, G]
      | inRangeFunc n => exact False.elim hx
      | endRangeFunc n => exact False.elim hx
      | beginRound => exact False.elim hx
      | call => exact False.elim hx
      | extern r args =>
        cases he : Extern.next r with
        | none => exact dead (.stuck ("no extern row " ++ r) (fr.pos K.V)) fun u => by simp [stepG, stepG.exec, hm, ht, he, G]
        | some e => exact fin_apply hv hfr (hPr.rows r hx.1 args hx.2 e he) (fun u => by simp [stepG, stepG.exec, hm, ht, G, he]) (.inr ⟨r, args, k, ht⟩)
      | inRegion ops todo =>
        cases todo with
        | nil => exact still { fr with todo := k } (l ++ [bottom]) fun u => by simp [stepG, stepG.exec, hm, ht, G]
        | cons i rest =>
          cases hw : ((ops[i]?).map (Region.wanted · (yielded ops fr.tmps))).getD false with
          | false => exact still (fr.finish undef) (l ++ [bottom]) fun u => by simp [stepG, stepG.exec, hm, ht, G, hw]
          | true =>
            cases ho : ops[i]? with
            | none => simp [ho] at hw
            | some o =>
              have hoper : fr.oper? = some o := by simp [Frame.oper?, ht, ho]
              exact fin_apply hv hfr (hx i o ho fr.eval hfr.ev) (fun u => by simp only [stepG, G, hm, stepG.exec, ht, hw, if_true, stepG.oper, hoper, hr]) (.inl ⟨ops, _, k, ht⟩)
  · simp only at hm
    obtain ⟨c, rest, hcr⟩ : ∃ c rest, l ++ [bottom] = c :: rest := by cases l <;> exact ⟨_, _, rfl⟩
    rw [hcr] at still dead ⊢
    have huw : ∀ u : World, stepG K.V true (G fr (c :: rest)) u = match K.V.funcs[fr.fn]? with
        | none => .go (G (c.finish (fr.tmps.getD 0 undef)) rest) u #[]
        | some fn => GStep.after (seen K.V fr.fn ((results fn fr.tmps).events K.V u #[])) (match (results fn fr.tmps).run K.V u with
          | .ok z u' => .go (G (c.finish z) rest) u' #[]
          | .halt (.stuck s) u' => .ended (.stuck s (fr.pos K.V)) u'
          | .halt _ u' => .ended (.stuck "return: the result variables cannot be read" (fr.pos K.V)) u') := fun u => by
      simp only [stepG, G, hm, unwind, hfr.defers, Sem.runT_eq, doReturn, hfr.kind]
      cases K.V.funcs[fr.fn]? <;> rfl
    cases hf : K.V.funcs[fr.fn]? with
    | none => exact still (c.finish (fr.tmps.getD 0 undef)) rest fun u => by rw [huw, hf]
    | some fn =>
      obtain ⟨L, hL⟩ := tame_fin (hfr.res fn (hfr.fn ▸ hf) fr.tmps hfr.tmps) v hv
      refine ⟨L.map fun r => match r with | .ok z u => some (lone (c.finish z) rest (tp u t0 0)) | _ => none, fun τ p => List.mem_map.2 ⟨_, hL τ p, ?_⟩⟩
      have hu := huw (tp v τ p)
      rw [hf] at hu
      simp only [G] at hu
      cases hr1 : (results fn fr.tmps).run K.V (tp v τ p) with
      | ok z u =>
        rw [hr1] at hu
        rw [step_lone_go (fr' := c.finish z) (cs' := rest) (w' := u) (by rw [hu]; rfl)]
        rfl
      | halt h u =>
        rw [hr1] at hu
        have : ∃ o, step K.V (lone fr (c :: rest) (tp v τ p)) = .ended o u := by
          cases h <;> exact ⟨_, step_lone_ended (by rw [hu]; rfl)⟩
        obtain ⟨o, ho⟩ := this
        rw [ho]
        rfl
end
end Go.Proofs.YtmmjlngbiilagaaGreatDoor

/-
  ████ FROM LONE RUNS TO COMPANY ████
-/
namespace Go.Proofs.YtmmjlngbiilagaaGreatDoor
open Go Go.Conc

section
variable {K : Cfg} {Fin : Frame → World → Prop} {F : Nat → Prop}
theorem bottom_doomed (z : Value) (v : World) : Doomed K.V (bottom.finish z) [] v := doomed_refuse (why := "") (k := []) rfl rfl
/-- At the return: this is the end that was told. -/
theorem final_fin {s : St} (hok : okS K s) (hA : Arrives K.V Fin s) (hf : s.final) : ∃ τ p, Fin s.1 (tp s.2.2 τ p) := by
  obtain ⟨fr, l, v⟩ := s
  obtain ⟨hm, rfl⟩ := hf
  simp only at hm
  have hfr := hok.fr
  simp only at hfr
  obtain ⟨τ, p, _, n, f1, v1, hn, hm1, hF⟩ := hA t0 0
  cases n with
  | zero =>
    simp only [runN, Stepped.next.injEq] at hn
    obtain ⟨rfl, _, rfl⟩ := lone_inj hn
    exact ⟨τ, p, hF⟩
  | succ n =>
    have huw : stepG K.V true (G fr [bottom]) (tp v τ p) = match K.V.funcs[fr.fn]? with
        | none => .go (G (bottom.finish (fr.tmps.getD 0 undef)) []) (tp v τ p) #[]
        | some fn => GStep.after (seen K.V fr.fn ((results fn fr.tmps).events K.V (tp v τ p) #[])) (match (results fn fr.tmps).run K.V (tp v τ p) with
          | .ok z u' => .go (G (bottom.finish z) []) u' #[]
          | .halt (.stuck s) u' => .ended (.stuck s (fr.pos K.V)) u'
          | .halt _ u' => .ended (.stuck "return: the result variables cannot be read" (fr.pos K.V)) u') := by
      simp only [stepG, G, hm, unwind, hfr.defers, Sem.runT_eq, doReturn, hfr.kind]
      cases K.V.funcs[fr.fn]? <;> rfl
    simp only [G] at huw
    have hn' : (match step K.V (lone fr [bottom] (tp v τ p)) with | .next m => runN K.V n m | e => e) = .next (lone f1 [bottom] v1) := hn
    cases hf : K.V.funcs[fr.fn]? with
    | none =>
      rw [hf] at huw
      rw [step_lone_go (fr' := bottom.finish (fr.tmps.getD 0 undef)) (cs' := []) (w' := tp v τ p) (by rw [huw]; rfl)] at hn'
      exact absurd hn' (bottom_doomed _ _ n f1 _ v1 hm1)
    | some fn =>
      rw [hf] at huw
      simp only at huw
      cases hr1 : (results fn fr.tmps).run K.V (tp v τ p) with
      | ok z u =>
        rw [hr1] at huw
        rw [step_lone_go (fr' := bottom.finish z) (cs' := []) (w' := u) (by rw [huw]; rfl)] at hn'
        exact absurd hn' (bottom_doomed _ _ n f1 _ v1 hm1)
      | halt h u =>
        rw [hr1] at huw
        have : ∃ o, step K.V (lone fr [bottom] (tp v τ p)) = .ended o u := by
          cases h <;> exact ⟨_, step_lone_ended (by rw [huw]; rfl)⟩
        obtain ⟨o, ho⟩ := this
        rw [ho] at hn'
        cases hn'

theorem Pois.tp {v w : World} (h : Pois K F v w) (τ : Nat → Question → Nat) (p : Nat) : Pois K F (tp v τ p) w := ⟨h.size, h.os, h.output, h.same, h.odd, h.foreign, h.frozen, h.tame, h.row, h.own, h.fb, h.disj, h.sz⟩
theorem Pois.untp {v w : World} {τ : Nat → Question → Nat} {p : Nat} (h : Pois K F (Proofs.YtmmjlngbiilagaaGreatDoor.tp v τ p) w) : Pois K F v w := ⟨h.size, h.os, h.output, h.same, h.odd, h.foreign, h.frozen, h.tame, h.row, h.own, h.fb, h.disj, h.sz⟩
theorem Pois.rel {v w w₁ : World} (h : Pois K F v w) (r : AtRel w w₁) : Pois K F v w₁ := by
  obtain ⟨d, rfl⟩ := r
  exact ⟨h.size, h.os, h.output, h.same, h.odd, h.foreign, h.frozen, h.tame, h.row, h.own, h.fb, h.disj, h.sz⟩

/-- ████ WITH A NUMBER. ████ -/
theorem bridge (hPr : Prune K) {D : World → World → Array Event → Prop} {Stop : Goroutine → World → Prop} {cs : List Frame} {mp : Bool}
    (hD : ∀ (c : Nat) (v w v' w' : World) (es : Array Event), Pois K F v w → Did K F c v w v' w' es → D w w' es) :
    ∀ {s : St}, Acc (Suc K) s → Arrives K.V Fin s → okS K s →
      (∀ fr v', fr.mode = .returning → FrOk K fr → (∃ τ p, Fin fr (tp v' τ p)) → ∃ m, ∀ w, Pois K F v' w → Goes K.P mp AtRel D Stop m (G fr cs) w) →
      ∃ N, ∀ w, Pois K F s.2.2 w → Goes K.P mp AtRel D Stop N (G s.1 (s.2.1 ++ cs)) w := by
  classical
  intro s hacc
  induction hacc with
  | intro s _ ih =>
    intro hA hok hend
    by_cases hf : s.final
    · obtain ⟨m, hm⟩ := hend s.1 s.2.2 hf.1 hok.fr (final_fin hok hA hf)
      refine ⟨m, fun w hw => ?_⟩
      rw [hf.2]
      exact hm w hw
    · obtain ⟨L, hL⟩ := fin_step hok hPr
      -- the number behind each outcome
      let Q : Option Machine → Nat → Prop := fun om N => ∃ s' : St, om = some (s'.m t0 0) ∧ ∀ w, Pois K F s'.2.2 w → Goes K.P mp AtRel D Stop N (G s'.1 (s'.2.1 ++ cs)) w
      let num : Option Machine → Nat := fun om => if h : ∃ N, Q om N then h.choose else 0
      let tot : List (Option Machine) → Nat := fun l => l.foldr (fun om a => num om + a) 0
      have hle : ∀ (l : List (Option Machine)) om, om ∈ l → num om ≤ tot l := fun l => by
        induction l with
        | nil => intro om h; cases h
        | cons x l ihl =>
          intro om h
          show num om ≤ num x + tot l
          rcases List.mem_cons.1 h with rfl | h
          · omega
          · have := ihl om h; omega
      refine ⟨tot L + 1, fun w hw => Goes.step rfl fun w₁ h₁ => ?_⟩
      have hw₁ : Pois K F s.2.2 w₁ := hw.rel h₁
      obtain ⟨s', c, hN, hok', hP⟩ := okS.step (F := F) hPr hok hA hf w₁.tape w₁.drawn
      obtain ⟨w', es', hgo, hdid⟩ := hP mp cs w₁ hw₁ fun _ _ => rfl
      rw [hgo]
      refine ⟨hD c _ _ _ _ _ hw₁ hdid, ?_⟩
      obtain ⟨N', hN'⟩ := ih s' ⟨_, _, _, hN, hok'⟩ (hN.arrives hA) hok' hend
      have hmem := hL w₁.tape w₁.drawn
      rw [hN.2 w₁.tape w₁.drawn fun _ _ => rfl] at hmem
      have hQ : ∃ N, Q (erS (.next (s'.m w₁.tape (w₁.drawn + c)))) N := ⟨N', s', rfl, hN'⟩
      obtain ⟨s2, e2, hg2⟩ := hQ.choose_spec
      have hnum : num (erS (.next (s'.m w₁.tape (w₁.drawn + c)))) = hQ.choose := dif_pos hQ
      have e3 : lone s'.1 (s'.2.1 ++ [bottom]) (tp s'.2.2 t0 0) = lone s2.1 (s2.2.1 ++ [bottom]) (tp s2.2.2 t0 0) := Option.some.inj e2
      obtain ⟨f1, f2, f3⟩ := lone_inj e3
      have f2' := List.append_cancel_right f2
      have hp2 : Pois K F s2.2.2 w' := by
        have h1 := hdid.pois.tp t0 0
        rw [f3] at h1
        exact h1.untp
      have := hg2 w' hp2
      rw [f1, f2']
      exact this.mono (by rw [← hnum]; exact hle L _ hmem)

/-- ████ WITHOUT ONE. ████ -/
theorem bridgeI (hPr : Prune K) {D : World → World → Array Event → Prop} {Stop : Goroutine → World → Prop} {cs : List Frame} {mp : Bool}
    (hD : ∀ (c : Nat) (v w v' w' : World) (es : Array Event), Pois K F v w → Did K F c v w v' w' es → D w w' es) :
    ∀ {s : St}, Acc (Suc K) s → Arrives K.V Fin s → okS K s →
      (∀ fr v' w, fr.mode = .returning → FrOk K fr → (∃ τ p, Fin fr (tp v' τ p)) → Pois K F v' w → GoesI K.P mp AtRel D Stop (G fr cs) w) →
      ∀ w, Pois K F s.2.2 w → GoesI K.P mp AtRel D Stop (G s.1 (s.2.1 ++ cs)) w := by
  intro s hacc
  induction hacc with
  | intro s _ ih =>
    intro hA hok hend w hw
    by_cases hf : s.final
    · have := hend s.1 s.2.2 w hf.1 hok.fr (final_fin hok hA hf) hw
      rw [hf.2]
      exact this
    · refine GoesI.step' rfl fun w₁ h₁ => ?_
      have hw₁ : Pois K F s.2.2 w₁ := hw.rel h₁
      obtain ⟨s', c, hN, hok', hP⟩ := okS.step (F := F) hPr hok hA hf w₁.tape w₁.drawn
      obtain ⟨w', es', hgo, hdid⟩ := hP mp cs w₁ hw₁ fun _ _ => rfl
      exact ⟨_, _, _, hgo, hD c _ _ _ _ _ hw₁ hdid, ih s' ⟨_, _, _, hN, hok'⟩ (hN.arrives hA) hok' hend w' hdid.pois⟩
end
end Go.Proofs.YtmmjlngbiilagaaGreatDoor

/-
  TAME MEANINGS, word for word: what the model's instructions are made of.
-/
namespace Go.Proofs.YtmmjlngbiilagaaGreatDoor
open Go Go.Conc

structure Low (K : Cfg) : Prop where
  tables : K.V.toTables = K.P.toTables
  new : ∀ b, K.B ≤ b → K.G b
  zero : ∀ t i z, K.P.info? t = some i → i.zero = some z → PFv K z

section
variable {K : Cfg} {α β : Type} {A : α → Prop}
theorem t_bind {C : β → Prop} {s : Sem α} {f : α → Sem β} (hs : Tame K A s) (hf : ∀ a, A a → Tame K C (f a)) : Tame K C (s >>= f) := Tame.bind hf hs
theorem t_pure {a : α} (h : A a) : Tame K A (pure a) := h
theorem t_prog {f : Program → Sem α} (h : f K.V = f K.P) (ht : Tame K A (f K.P)) : Tame K A (program >>= f) := .inl ⟨h, ht⟩
theorem t_stuck (s : String) : Tame K A (stuck s) := trivial
theorem t_panic (v : Value) : Tame K A (goPanic v) := trivial
theorem t_noEntry (s : String) : Tame K A (unsupported (.noEntry s)) := trivial
theorem t_limit (s : String) : Tame K A (unsupported (.resourceLimit s)) := trivial
theorem t_unsafe (s : String) : Tame K A (unsupported (.unsafePointer s)) := trivial
theorem t_addr : Tame K A (unsupported .addressObserved) := trivial
theorem t_load (a : Addr) : Tame K (PFv K) (load a) := ⟨rfl, fun _ h => h⟩
theorem t_store (a : Addr) {v : Value} (h : PFv K v) : Tame K (fun _ => True) (store a v) := ⟨rfl, h, trivial⟩
theorem pf_bool (b : Bool) : PFv K (.bool b) := .inr (.bool b)
theorem pf_int (k : IntKind) (n : Int) : PFv K (.int k n) := .inr (.int k n)
theorem pf_string (s : ByteArray) : PFv K (.string s) := .inr (.string s)
theorem pf_agg {cs : Array Value} (h : ∀ x ∈ cs, PFv K x) : PFv K (.agg cs) := .inr (.agg fun x hx => (h x hx).resolve_left id)
theorem pf_tuple {cs : Array Value} (h : ∀ x ∈ cs, PFv K x) : PFv K (.tuple cs) := .inr (.tuple fun x hx => (h x hx).resolve_left id)
theorem pf_ptr {a : Addr} (h : PFb K a.block) : PFv K (.pointer (some a)) := h.imp id .ptr
theorem pf_slice {a : Addr} (l c : Nat) (h : PFb K a.block) : PFv K (.slice (some a) l c) := h.imp id (.slice l c)
theorem PFv.ptr {a : Addr} (h : PFv K (.pointer (some a))) : PFb K a.block := h.imp id fun h => by cases h; assumption
theorem PFv.slc {a : Addr} {l c : Nat} (h : PFv K (.slice (some a) l c)) : PFb K a.block := h.imp id fun h => by cases h; assumption
theorem PFv.aggs {cs : Array Value} (h : PFv K (.agg cs)) : ∀ x ∈ cs, PFv K x := h.cells
theorem PFv.tups {cs : Array Value} (h : PFv K (.tuple cs)) : ∀ x ∈ cs, PFv K x := fun x hx => h.imp id fun h => by cases h with | tuple h => exact h x hx
end

section
variable {K : Cfg} (L : Low K)
include L
theorem Low.block {r : Nat} (h : K.B ≤ r) : PFb K r := .inr (L.new r h)
theorem info_eq (t : TypeId) : K.V.info? t = K.P.info? t := by rw [L.tables]
theorem und_eq (t : TypeId) : K.V.underlying t = K.P.underlying t := by unfold Program.underlying; simp only [info_eq L]
theorem t_typeInfo (t : TypeId) : Tame K (fun i => K.P.info? t = some i) (typeInfo t) := by
  refine t_prog (by simp only [info_eq L]) ?_
  split
  · rename_i i h
    exact h
  · exact trivial
theorem t_und (t : TypeId) : Tame K (fun d => K.P.underlying t = some d) (underlying t) := by
  refine t_prog (by simp only [und_eq L]) ?_
  split
  · rename_i i h
    exact h
  · exact trivial
theorem t_zero (t : TypeId) : Tame K (PFv K) (zeroValue t) := by
  refine t_bind (t_typeInfo L t) fun i hi => ?_
  split
  · rename_i z hz
    exact L.zero t i z hi hz
  · exact trivial
theorem t_size (t : TypeId) : Tame K (fun _ => True) (sizeOf t) := t_bind (t_typeInfo L t) fun _ _ => trivial
theorem t_isAgg (t : TypeId) : Tame K (fun _ => True) (isAgg t) := by
  refine t_bind (t_und L t) fun d _ => ?_
  split <;> exact trivial
theorem t_loadFrom (a : Addr) : ∀ (n i : Nat) (acc : Array Value), (∀ x ∈ acc, PFv K x) → Tame K (fun cs : Array Value => ∀ x ∈ cs, PFv K x) (loadCellsFrom a i n acc) := by
  have _ := L
  intro n
  induction n with
  | zero => exact fun i acc h => h
  | succ n ih =>
    intro i acc h
    exact t_bind (t_load _) fun v hv => ih _ _ fun x hx => (Array.mem_push.1 hx).elim (h x) fun e => e ▸ hv
theorem t_loadVar (t : TypeId) (a : Addr) : Tame K (PFv K) (loadVar t a) := by
  refine t_bind (t_isAgg L t) fun b _ => ?_
  split
  · exact t_bind (t_size L t) fun n _ => t_bind (t_loadFrom L a n 0 #[] (by simp)) fun cs h => pf_agg h
  · exact t_load a
theorem t_storeCells (a : Addr) : ∀ (vs : List Value) (i : Nat), (∀ x ∈ vs, PFv K x) → Tame K (fun _ => True) (storeCells a vs i) := by
  have _ := L
  intro vs
  induction vs with
  | nil => exact fun i _ => trivial
  | cons v vs ih => exact fun i h => t_bind (t_store _ (h v (List.mem_cons_self ..))) fun _ _ => ih _ fun x hx => h x (List.mem_cons_of_mem _ hx)
theorem t_storeVar (t : TypeId) (a : Addr) {v : Value} (h : PFv K v) : Tame K (fun _ => True) (storeVar t a v) := by
  refine t_bind (t_size L t) fun n _ => ?_
  have hc : Tame K (fun _ => True) (storeCells a v.cells.toList) := t_storeCells L a _ _ fun x hx => h.cells x (Array.mem_toList_iff.1 hx)
  split
  · exact t_bind (t_stuck _) fun _ (_ : True) => hc
  · exact hc
theorem t_newRow (e : TypeId) {cells : Array Value} (h : ∀ x ∈ cells, PFv K x) : Tame K (fun a => PFb K a.block) (newRow e cells) :=
  t_bind (A := fun r => K.B ≤ r) ⟨h, fun _ hr => hr⟩ fun _ hr => L.block hr
theorem t_newVar (t : TypeId) {v : Value} (h : PFv K v) : Tame K (fun a => PFb K a.block) (newVar t v) := t_newRow L t h.cells
theorem t_part (t : TypeId) {cs : Array Value} (off : Nat) (h : ∀ x ∈ cs, PFv K x) : Tame K (PFv K) (part t cs off) := by
  refine t_bind (t_isAgg L t) fun b _ => ?_
  split
  · refine t_bind (t_size L t) fun n _ => pf_agg fun x hx => ?_
    obtain ⟨j, hj⟩ := Array.mem_iff_getElem?.1 hx
    rw [Array.getElem?_extract] at hj
    split at hj
    · exact h x (Array.mem_iff_getElem?.2 ⟨_, hj⟩)
    · cases hj
  · split
    · rename_i v hv
      exact h v (Array.mem_iff_getElem?.2 ⟨_, hv⟩)
    · exact trivial
theorem t_asIntOf (v : Value) : Tame K (fun _ => True) (asIntOf v) := by have _ := L; unfold asIntOf; split <;> exact trivial
theorem t_asInt (v : Value) : Tame K (fun _ => True) (asInt v) := t_bind (t_asIntOf L v) fun _ _ => trivial
theorem t_asBool (v : Value) : Tame K (fun _ => True) (asBool v) := by have _ := L; unfold asBool; split <;> exact trivial
theorem t_asString (v : Value) : Tame K (fun _ => True) (asString v) := by have _ := L; unfold asString; split <;> exact trivial
theorem t_asAgg {v : Value} (h : PFv K v) : Tame K (fun cs : Array Value => ∀ x ∈ cs, PFv K x) (asAgg v) := by
  have _ := L
  unfold asAgg
  split
  · exact h.aggs
  · exact trivial
theorem t_sureAddr {v : Value} (h : PFv K v) : Tame K (fun a => PFb K a.block) (Instr.sureAddr v) := by
  have _ := L
  unfold Instr.sureAddr
  split
  · exact h.ptr
  · exact trivial
theorem rt_eq : K.V.rt = K.P.rt := by rw [L.tables]
theorem t_rpBounds (x y : Int) (s : Bool) (c : BoundsCode) {α : Type} {A : α → Prop} : Tame K A (runtimePanic (.bounds x y s c) : Sem α) := t_prog (by simp only [rt_eq L]) trivial
theorem t_rpError (m : String) {α : Type} {A : α → Prop} : Tame K A (runtimePanic (.error m) : Sem α) := t_prog (by simp only [rt_eq L]) trivial
theorem t_rpNil {α : Type} {A : α → Prop} : Tame K A (runtimePanic .nilDeref : Sem α) := t_prog (by simp only [rt_eq L]) trivial
theorem t_boundsPanic (k : IntKind) (x y : Int) (c : BoundsCode) {α : Type} {A : α → Prop} : Tame K A (boundsPanic k x y c : Sem α) := by
  unfold boundsPanic
  split
  · exact t_bind (A := fun _ => True) (t_bind (A := fun _ => True) ⟨show (2 : Nat) ≠ 0 by decide, fun _ => trivial⟩ fun _ _ => trivial) fun _ _ => t_rpBounds L _ _ _ _
  · exact t_bind (A := fun _ => True) trivial fun _ _ => t_rpBounds L _ _ _ _
theorem t_shapeK {α : Type} {A : α → Prop} {r : Nat} (h : PFb K r) {k : Option (TypeId × Nat) → Sem α} (hk : ∀ t n, k (some (t, 0)) = k (some (t, n)) ∨ NC K.V (k (some (t, 0)))) (h1 : ∀ t n, Tame K A (k (some (t, n)))) (h2 : K.gr = true ∨ K.B ≤ r → Tame K A (k none)) : Tame K A (shape r >>= k) := have _ := L; ⟨h, .inr (.inr hk), h1, h2⟩
theorem t_getObjK {α : Type} {A : α → Prop} {r : Nat} (h : K.gr = true ∨ K.B ≤ r) {k : Obj → Sem α} (h1 : ∀ o, TameO K o → Tame K A (k o)) (h2 : ∀ t, Tame K A (k (deadV r t)) ∧ ∀ o, oddO o → k (deadV r t) = k o ∨ NC K.V (k (deadV r t))) : Tame K A (getObj r >>= k) := have _ := L; ⟨.inl h, h1, fun _ t => h2 t⟩
theorem t_numberAt {r : Nat} (h : PFb K r) : Tame K (fun x : Option (Addr × Bool) => ∀ a l, x = some (a, l) → PFb K a.block) (numberAt r) := by
  unfold numberAt
  refine t_shapeK L h (fun t n => .inl rfl) (fun t n => ?_) fun hg => ?_
  · exact t_pure fun a l e => by cases e
  · refine t_getObjK L hg (fun o ho => ?_) fun t => ⟨t_pure (fun a l e => (by cases e)), fun o ho => .inl (by cases o <;> first | rfl | exact ho.elim)⟩
    split
    · exact t_pure fun a l e => by cases e; exact ho
    · exact t_pure fun a l e => by cases e
theorem t_viewAtK {α : Type} {A : α → Prop} {r : Nat} (h : PFb K r) {f : Option (Addr × TypeId) → Sem α} (hn : Tame K A (f none)) (hs : ∀ x, Tame K A (f (some x)) ∧ NC K.V (f (some x))) : Tame K A (viewAt r >>= f) := have _ := L;
  ⟨h, .inr (.inr fun t n => .inl rfl), fun t n => hn, fun hg => ⟨.inl hg, fun o ho => (by cases o <;> first | exact ho.elim | exact hn), fun _ t => ⟨(hs _).1, fun o ho => .inr (hs _).2⟩⟩⟩
theorem t_noView {a : Addr} (h : PFb K a.block) : Tame K (fun _ => True) (noView a) :=
  t_viewAtK L h trivial fun x => ⟨t_unsafe _, fun _ _ h => h⟩
theorem t_behind {n : Addr} (h : PFb K n.block) : Tame K (fun x : Addr × Bool => PFb K x.1.block) (behindNumber n) := by
  refine t_bind (t_numberAt L h) fun x hx => t_pure ?_
  cases x with
  | none => exact h
  | some y => exact hx y.1 y.2 rfl
theorem t_asNumber {a : Addr} (h : PFb K a.block) (l : Bool) : Tame K (PFv K) (asNumber a l) :=
  t_bind (A := fun r => K.B ≤ r) ⟨h, fun _ hr => hr⟩ fun _ hr => pf_ptr (L.block hr)
end
end Go.Proofs.YtmmjlngbiilagaaGreatDoor

/-
  TAME MEANINGS: integers' operations, on whatever values.
-/
namespace Go.Proofs.YtmmjlngbiilagaaGreatDoor
open Go Go.Conc

section
variable {K : Cfg} (L : Low K)
include L
theorem cells_eq (t : TypeId) : K.V.cellsOf t = K.P.cellsOf t := by unfold Program.cellsOf; rw [info_eq L]
theorem bytes_eq (t : TypeId) : K.V.bytesOf t = K.P.bytesOf t := by unfold Program.bytesOf; rw [info_eq L]
theorem depth_eq : K.V.depth = K.P.depth := by unfold Program.depth; rw [L.tables]
theorem byteOfCell_eq : ∀ (d : Nat) (t : TypeId) (off : Nat), byteOfCell K.V d t off = byteOfCell K.P d t off := by
  intro d
  induction d with
  | zero => intro t off; rfl
  | succ d ih => intro t off; unfold byteOfCell; simp only [und_eq L, cells_eq L, bytes_eq L, ih]
theorem cellOfByte_eq : ∀ (d : Nat) (t : TypeId) (b : Nat), cellOfByte K.V d t b = cellOfByte K.P d t b := by
  intro d
  induction d with
  | zero => intro t off; rfl
  | succ d ih => intro t off; unfold cellOfByte; simp only [und_eq L, cells_eq L, bytes_eq L, ih]
theorem cellAtBytes_eq (d : Nat) (e : TypeId) (c off : Nat) (b : Int) : cellAtBytes K.V d e c off b = cellAtBytes K.P d e c off b := by
  unfold cellAtBytes
  simp only [cells_eq L, bytes_eq L, byteOfCell_eq L, cellOfByte_eq L]
theorem t_byteOf {a : Addr} (h : PFb K a.block) : Tame K (fun _ => True) (byteOf a) := by
  unfold byteOf
  split
  · exact trivial
  · refine t_prog (by simp only [cells_eq L, bytes_eq L, byteOfCell_eq L, depth_eq L]) ?_
    refine t_bind (t_noView L h) fun _ _ => t_shapeK L h (fun t n => .inl rfl) (fun t n => ?_) fun _ => trivial
    dsimp only
    split
    · exact trivial
    · split <;> exact trivial
theorem t_partAt {b : Addr} (h : PFb K b.block) (c n : Nat) : Tame K (fun a => PFb K a.block) (partAt b c n) := by
  refine t_bind (t_byteOf L h) fun x _ => t_bind (t_byteOf L (a := { block := b.block, off := b.off + c }) h) fun y _ => ?_
  split
  · exact h
  · exact h
theorem t_fieldPlace {a : Addr} (h : PFb K a.block) (f : Field) : Tame K (fun x => PFb K x.block) (fieldPlace a f) := by
  refine t_bind (t_size L f.type) fun n _ => ?_
  split
  · exact t_partAt L h _ _
  · refine t_pure ?_
    unfold Addr.add
    split <;> exact h
theorem t_twoPlaces {a b : Addr} (ha : PFb K a.block) (hb : PFb K b.block) : Tame K (fun _ => True) (Op.twoPlaces a b) := by
  refine t_prog (by simp only [L.tables]) ?_
  split
  · exact t_bind (A := fun _ => True) t_addr fun _ _ => t_bind (t_byteOf L ha) fun _ _ => t_bind (t_byteOf L hb) fun _ _ => trivial
  · exact t_bind (t_byteOf L ha) fun _ _ => t_bind (t_byteOf L hb) fun _ _ => trivial
theorem t_addrSub (k : IntKind) {a b : Addr} (ha : PFb K a.block) (hb : PFb K b.block) : Tame K (PFv K) (Op.addrSub k a b) := t_bind (t_twoPlaces L ha hb) fun _ _ => pf_int _ _
theorem t_addrCmp (op : BinOp) {a b : Addr} (ha : PFb K a.block) (hb : PFb K b.block) : Tame K (PFv K) (Op.addrCmp op a b) := by
  refine t_bind (t_twoPlaces L ha hb) fun x _ => ?_
  obtain ⟨x, y⟩ := x
  dsimp only
  cases op <;> first | exact t_pure (pf_bool _) | exact t_addr
theorem t_addrMod (k : IntKind) {a : Addr} (ha : PFb K a.block) (n : Int) : Tame K (PFv K) (Op.addrMod k a n) := by
  unfold Op.addrMod
  refine t_shapeK L ha (fun t n => .inl rfl) (fun t n => ?_) fun _ => t_addr
  refine t_bind (t_typeInfo L _) fun i _ => ?_
  dsimp only
  split
  · exact t_bind (A := fun _ => True) t_addr fun _ _ => t_bind (t_byteOf L ha) fun _ _ => pf_int _ _
  · exact t_bind (t_byteOf L ha) fun _ _ => pf_int _ _
theorem t_unsafeAdd (ts : Array TypeId) (t : TypeId) {p : Option Addr} (hp : PFv K (.pointer p)) (y : Value) : Tame K (PFv K) (Builtin.unsafeAdd_ ts t #[.pointer p, y]) := by
  unfold Builtin.unsafeAdd_
  dsimp only
  refine t_bind (t_asInt L _) fun n _ => ?_
  have tail : ∀ a : Addr, PFb K a.block → Tame K (PFv K) (do
      let some (e, cells) ← shape a.block | unsupported (.unsafePointer "Add")
      let p ← program
      match cellAtBytes p p.depth e (cells / p.cellsOf e) a.off n with
      | some off => pure (.pointer (some { a with off }))
      | none => unsupported (.unsafePointer "Add")) := fun a ha => by
    refine t_shapeK L ha (fun t n => .inr ?_) (fun t n => ?_) fun _ => t_unsafe _
    · have hno : ∀ (p : Program) (z : Int), cellAtBytes p p.depth t (0 / p.cellsOf t) a.off z = none := fun p z => by
        unfold cellAtBytes
        simp only [Nat.zero_div, Nat.zero_mul, bind, Option.bind]
        split
        · rfl
        · split
          · rfl
          · dsimp only
            rw [if_pos]
            simp only [Bool.or_eq_true, decide_eq_true_eq, Int.ofNat_eq_natCast]
            omega
      intro v es hc
      simp only [program, bind, Sem.bind, Sem.runT, hno, unsupported] at hc
      exact hc
    · refine t_prog (by simp only [cells_eq L, cellAtBytes_eq L, depth_eq L]) ?_
      split
      · exact t_pure (pf_ptr ha)
      · exact t_unsafe _
  cases p with
  | none =>
    dsimp only
    split
    · exact t_unsafe _
    · split
      · exact t_bind (A := fun _ => True) (t_unsafe _) fun _ _ => t_unsafe _
      · exact t_unsafe _
  | some a =>
    have ha := hp.ptr
    dsimp only
    split
    · exact t_viewAtK L ha hp fun x => ⟨t_bind (A := fun _ => True) (t_unsafe _) fun _ _ => hp, fun _ _ h => h⟩
    · split
      · exact t_bind (A := fun _ => True) (t_unsafe _) fun _ _ => tail a ha
      · exact tail a ha
theorem t_movedNumber (t : TypeId) {x : Option Addr} (hx : PFv K (.pointer x)) (y : Value) : Tame K (PFv K) (movedNumber t (.pointer x) y) := by
  unfold movedNumber
  refine t_bind (t_und L t) fun d _ => ?_
  cases x with
  | none =>
    dsimp only
    split
    · exact t_bind (A := fun _ => True) (t_unsafe _) fun _ _ => t_unsafeAdd L _ _ hx _
    · rw [if_neg (by decide)]; exact t_unsafeAdd L _ _ hx _
  | some n =>
    have tail : Tame K (PFv K) (do
        let (a, lost) ← behindNumber n
        match ← Builtin.unsafeAdd_ #[] t #[.pointer (some a), y] with
        | .pointer (some b) => asNumber b lost
        | v => pure v) := by
      refine t_bind (t_behind L hx.ptr) fun z hz => ?_
      obtain ⟨a, l⟩ := z
      dsimp only
      refine t_bind (t_unsafeAdd L _ _ (pf_ptr hz) _) fun v hv => ?_
      split
      · exact t_asNumber L hv.ptr _
      · exact hv
    dsimp only
    split
    · exact t_bind (A := fun _ => True) (t_unsafe _) fun _ _ => tail
    · rw [if_neg (by decide)]; exact tail
theorem t_movedPointer (t : TypeId) {x : Option Addr} (hx : PFv K (.pointer x)) (y : Value) : Tame K (PFv K) (movedPointer t (.pointer x) y) := by
  unfold movedPointer
  cases x with
  | none => exact t_unsafeAdd L _ _ hx _
  | some a =>
    dsimp only
    refine t_bind (t_numberAt L hx.ptr) fun z _ => ?_
    split
    · exact t_bind (A := fun _ => True) t_addr fun _ _ => t_unsafeAdd L _ _ hx _
    · exact t_unsafeAdd L _ _ hx _
/-- '==' at an integer type. -/
theorem t_equalInt {t : TypeId} {k : IntKind} (ht : K.P.underlying t = some (.int k)) {x y : Value} (hx : PFv K x) (hy : PFv K y) (d : Nat) : Tame K (fun _ => True) (Op.equalIn d t x y) := by
  cases d with
  | zero => exact t_limit _
  | succ d =>
    unfold Op.equalIn
    refine t_bind (t_und L t) fun u hu => ?_
    rw [ht] at hu
    cases hu
    split
    case h_2 => split <;> exact trivial
    case h_3 => exact trivial
    case h_4 => exact trivial
    case h_5 a b _ =>
      refine t_bind (t_behind L hx.ptr) fun za hza => t_bind (t_behind L hy.ptr) fun zb hzb => ?_
      dsimp only
      refine t_prog (by simp only [L.tables]) ?_
      split
      · exact t_bind (t_byteOf L hza) fun _ _ => t_bind (t_byteOf L hzb) fun _ _ => trivial
      · refine t_bind (t_typeInfo L _) fun i _ => ?_
        split
        · split
          · exact trivial
          · exact t_addr
        · exact t_addr
    case h_6 => exact t_addr
    case h_7 => exact t_addr
    case h_29 => exact t_stuck _
    all_goals (rename_i h1; cases h1)
end
end Go.Proofs.YtmmjlngbiilagaaGreatDoor

/-
  TAME OPERATIONS.
-/
namespace Go.Proofs.YtmmjlngbiilagaaGreatDoor
open Go Go.Conc

section
variable {K : Cfg} (L : Low K)
include L
theorem t_intArith (op : BinOp) (k : IntKind) (x y : Int) : Tame K (PFv K) (Op.intArith op k x y) := by have _ := L; unfold Op.intArith; split <;> first | exact t_pure (pf_int _ _) | exact t_stuck _
theorem t_intDiv (op : BinOp) (k : IntKind) (x y : Int) : Tame K (PFv K) (Op.intDiv op k x y) := by
  unfold Op.intDiv
  split
  · exact t_rpError L _
  · split <;> first | exact t_pure (pf_int _ _) | exact t_stuck _
theorem t_intBits (op : BinOp) (k : IntKind) (x y : Int) : Tame K (PFv K) (Op.intBits op k x y) := by have _ := L; unfold Op.intBits; dsimp only; split <;> first | exact t_pure (pf_int _ _) | exact t_stuck _
theorem t_intCmp (op : BinOp) (x y : Int) : Tame K (PFv K) (Op.intCmp op x y) := by have _ := L; unfold Op.intCmp; split <;> first | exact t_pure (pf_bool _) | exact t_stuck _
theorem t_shift (op : BinOp) (k : IntKind) (x : Int) (yk : IntKind) (y : Int) : Tame K (PFv K) (Op.shift op k x yk y) := by
  unfold Op.shift
  split
  · exact t_rpError L _
  · dsimp only
    split <;> first | exact t_pure (pf_int _ _) | exact t_stuck _
theorem t_floatArith (op : BinOp) (k : FloatKind) (x y : Nat) : Tame K (PFv K) (Op.floatArith op k x y) := by
  have _ := L
  have tail : ∀ r : Option Nat, Tame K (PFv K) (match r with | some r => pure (.float k r) | none => do pure (.float k (← choose (.nanBits k x y)))) := fun r => by
    split
    · exact t_pure (.inr (.float _ _))
    · exact t_bind (A := fun _ => True) ⟨trivial, fun _ => trivial⟩ fun _ _ => .inr (.float _ _)
  unfold Op.floatArith
  dsimp only
  cases op <;> first | exact t_bind (A := fun _ => True) (t_pure trivial) fun r _ => tail r | exact t_bind (A := fun _ => True) (t_stuck _) fun r _ => tail r | exact tail _
theorem t_floatCmp (op : BinOp) (k : FloatKind) (x y : Nat) : Tame K (PFv K) (Op.floatCmp op k x y) := by have _ := L; unfold Op.floatCmp; dsimp only; split <;> first | exact t_pure (pf_bool _) | exact t_stuck _
theorem t_floatToFloat (s : FloatKind) (b : Nat) (d : FloatKind) : Tame K (PFv K) (Conv.floatToFloat s b d) := by
  have _ := L
  have ch : ∀ q, FinQ q → Tame K (PFv K) (do pure (Value.float d (← choose q))) := fun q hq => t_bind (A := fun _ => True) ⟨hq, fun _ => trivial⟩ fun _ _ => .inr (.float _ _)
  unfold Conv.floatToFloat
  split
  · exact t_pure (.inr (.float _ _))
  · split
    · exact ch _ trivial
    · exact t_pure (.inr (.float _ _))
    · dsimp only
      split
      · exact ch _ trivial
      · exact t_pure (.inr (.float _ _))
theorem t_cArith (op : BinOp) (k : FloatKind) (x y : Nat) : Tame K (fun _ => True) (Op.Complex.arith op k x y) := by
  refine t_bind (t_floatArith L _ _ _ _) fun v _ => ?_
  split <;> exact trivial
theorem t_cCmp (op : BinOp) (k : FloatKind) (x y : Nat) : Tame K (fun _ => True) (Op.Complex.cmp op k x y) := t_bind (t_floatCmp L _ _ _ _) fun v _ => t_asBool L v
theorem t_cConv (s : FloatKind) (x : Nat) (d : FloatKind) : Tame K (fun _ => True) (Op.Complex.conv s x d) := by
  unfold Op.Complex.conv
  split
  · exact trivial
  · refine t_bind (t_floatToFloat L _ _ _) fun v _ => ?_
    split <;> exact trivial
theorem t_product (a b c d : Nat) : Tame K (fun _ => True) (Op.Complex.product a b c d) :=
  t_bind (t_cArith L _ _ _ _) fun _ _ => t_bind (t_cArith L _ _ _ _) fun _ _ => t_bind (t_cArith L _ _ _ _) fun _ _ => t_bind (t_cArith L _ _ _ _) fun _ _ => t_bind (t_cArith L _ _ _ _) fun _ _ => t_bind (t_cArith L _ _ _ _) fun _ _ => trivial
theorem t_corrected (s a b c d : Nat) : Tame K (fun _ => True) (Op.Complex.corrected s a b c d) :=
  t_bind (t_cArith L _ _ _ _) fun _ _ => t_bind (t_cArith L _ _ _ _) fun _ _ => t_bind (t_cArith L _ _ _ _) fun _ _ => t_bind (t_cArith L _ _ _ _) fun _ _ => t_bind (t_cArith L _ _ _ _) fun _ _ => t_bind (t_cArith L _ _ _ _) fun _ _ => t_bind (t_cArith L _ _ _ _) fun _ _ => t_bind (t_cArith L _ _ _ _) fun _ _ => trivial
theorem t_quotient (a b c d : Nat) : Tame K (fun _ => True) (Op.Complex.quotient a b c d) := by
  have ar : ∀ op k x y, Tame K (fun _ => True) (Op.Complex.arith op k x y) := fun op k x y => t_cArith L op k x y
  have cm : ∀ op k x y, Tame K (fun _ => True) (Op.Complex.cmp op k x y) := fun op k x y => t_cCmp L op k x y
  have tail : ∀ p : Nat × Nat, Tame K (fun _ => True) (do
      let (e, f) := p
      let zero := (← Op.Complex.cmp .eql .f64 c 0) && (← Op.Complex.cmp .eql .f64 d 0)
      if !(Op.Complex.isNaN e && Op.Complex.isNaN f) then pure (e, f)
      else if zero && (!Op.Complex.isNaN a || !Op.Complex.isNaN b) then
        pure (← Op.Complex.mul (Op.Complex.copysign Op.Complex.inf c) a, ← Op.Complex.mul (Op.Complex.copysign Op.Complex.inf c) b)
      else if (Op.Complex.isInf a || Op.Complex.isInf b) && Op.Complex.isFinite c && Op.Complex.isFinite d then
        Op.Complex.corrected Op.Complex.inf (Op.Complex.inf2one a) (Op.Complex.inf2one b) c d
      else if (Op.Complex.isInf c || Op.Complex.isInf d) && Op.Complex.isFinite a && Op.Complex.isFinite b then
        Op.Complex.corrected 0 a b (Op.Complex.inf2one c) (Op.Complex.inf2one d)
      else pure (e, f) : Sem (Nat × Nat)) := fun p => by
    refine t_bind (cm _ _ _ _) fun _ _ => t_bind (cm _ _ _ _) fun _ _ => ?_
    dsimp only
    split
    · exact trivial
    · split
      · exact t_bind (ar _ _ _ _) fun _ _ => t_bind (ar _ _ _ _) fun _ _ => trivial
      · split
        · exact t_corrected L _ _ _ _ _
        · split
          · exact t_corrected L _ _ _ _ _
          · exact trivial
  unfold Op.Complex.quotient
  refine t_bind (cm _ _ _ _) fun z _ => ?_
  dsimp only
  split
  · exact t_bind (ar _ _ _ _) fun _ _ => t_bind (ar _ _ _ _) fun _ _ => t_bind (ar _ _ _ _) fun _ _ => t_bind (ar _ _ _ _) fun _ _ => t_bind (ar _ _ _ _) fun _ _ => t_bind (ar _ _ _ _) fun _ _ => t_bind (ar _ _ _ _) fun _ _ => t_bind (ar _ _ _ _) fun _ _ => t_bind (ar _ _ _ _) fun _ _ => tail _
  · exact t_bind (ar _ _ _ _) fun _ _ => t_bind (ar _ _ _ _) fun _ _ => t_bind (ar _ _ _ _) fun _ _ => t_bind (ar _ _ _ _) fun _ _ => t_bind (ar _ _ _ _) fun _ _ => t_bind (ar _ _ _ _) fun _ _ => t_bind (ar _ _ _ _) fun _ _ => t_bind (ar _ _ _ _) fun _ _ => t_bind (ar _ _ _ _) fun _ _ => tail _
theorem t_complexOp (op : BinOp) (k : FloatKind) (a b c d : Nat) : Tame K (PFv K) (Op.complexOp op k a b c d) := by
  have e : ∀ op x y, Tame K (fun _ => True) (Op.Complex.cmp op k x y) := fun op x y => t_cCmp L op k x y
  unfold Op.complexOp
  split
  · exact t_bind (t_cArith L _ _ _ _) fun _ _ => t_bind (t_cArith L _ _ _ _) fun _ _ => .inr (.complex _ _ _)
  · exact t_bind (t_cArith L _ _ _ _) fun _ _ => t_bind (t_cArith L _ _ _ _) fun _ _ => .inr (.complex _ _ _)
  · refine t_bind (t_cConv L _ _ _) fun _ _ => t_bind (t_cConv L _ _ _) fun _ _ => t_bind (t_cConv L _ _ _) fun _ _ => t_bind (t_cConv L _ _ _) fun _ _ => ?_
    dsimp only
    split
    · exact t_bind (t_product L _ _ _ _) fun _ _ => t_bind (t_cConv L _ _ _) fun _ _ => t_bind (t_cConv L _ _ _) fun _ _ => .inr (.complex _ _ _)
    · exact t_bind (t_quotient L _ _ _ _) fun _ _ => t_bind (t_cConv L _ _ _) fun _ _ => t_bind (t_cConv L _ _ _) fun _ _ => .inr (.complex _ _ _)
  · refine t_bind (t_cConv L _ _ _) fun _ _ => t_bind (t_cConv L _ _ _) fun _ _ => t_bind (t_cConv L _ _ _) fun _ _ => t_bind (t_cConv L _ _ _) fun _ _ => ?_
    dsimp only
    split
    · exact t_bind (t_product L _ _ _ _) fun _ _ => t_bind (t_cConv L _ _ _) fun _ _ => t_bind (t_cConv L _ _ _) fun _ _ => .inr (.complex _ _ _)
    · exact t_bind (t_quotient L _ _ _ _) fun _ _ => t_bind (t_cConv L _ _ _) fun _ _ => t_bind (t_cConv L _ _ _) fun _ _ => .inr (.complex _ _ _)
  · exact t_bind (e _ _ _) fun _ _ => t_bind (e _ _ _) fun _ _ => pf_bool _
  · exact t_bind (e _ _ _) fun _ _ => t_bind (e _ _ _) fun _ _ => pf_bool _
  · exact t_stuck _
theorem t_stringOp (op : BinOp) (x y : ByteArray) : Tame K (PFv K) (Op.stringOp op x y) := by
  have _ := L
  unfold Op.stringOp
  dsimp only
  split
  · split
    · exact t_limit _
    · exact t_pure (pf_string _)
  all_goals first | exact t_pure (pf_bool _) | exact t_stuck _
/-- An integers' operation, on whatever values. -/
theorem t_binOp (op : BinOp) {t : TypeId} {x y : Value} (heq : Tame K (fun _ => True) (Op.equal t x y)) (hx : PFv K x) (hy : PFv K y) : Tame K (PFv K) (binOp op t x y) := by
  unfold binOp
  have bn : ∀ {a : Addr}, PFv K (.pointer (some a)) → Tame K (fun x : Addr × Bool => PFb K x.1.block) (behindNumber a) := fun h => t_behind L h.ptr
  split
  · exact t_shift L _ _ _ _ _
  · exact t_shift L _ _ _ _ _
  · split
    · exact t_stuck _
    · split <;> first | exact t_intArith L _ _ _ _ | exact t_intDiv L _ _ _ _ | exact t_intBits L _ _ _ _ | exact t_intCmp L _ _ _
  · split
    · exact t_stuck _
    · split <;> first | exact t_floatArith L _ _ _ _ | exact t_floatCmp L _ _ _ _
  · split
    · exact t_stuck _
    · exact t_complexOp L _ _ _ _ _ _
  · exact t_stringOp L _ _ _
  · exact t_bind heq fun _ _ => pf_bool _
  · exact t_bind heq fun _ _ => pf_bool _
  · refine t_bind (t_und L t) fun d _ => ?_
    split
    · exact t_movedPointer L _ hx _
    · exact t_movedNumber L _ hx _
  · exact t_movedNumber L _ hy _
  · exact t_movedNumber L _ hx _
  · exact t_bind (bn hx) fun _ h1 => t_bind (bn hy) fun _ h2 => t_addrSub L _ h1 h2
  · exact t_bind (bn hx) fun _ h1 => t_bind (bn hy) fun _ h2 => t_addrCmp L _ h1 h2
  · exact t_bind (bn hx) fun _ h1 => t_bind (bn hy) fun _ h2 => t_addrCmp L _ h1 h2
  · exact t_bind (bn hx) fun _ h1 => t_bind (bn hy) fun _ h2 => t_addrCmp L _ h1 h2
  · exact t_bind (bn hx) fun _ h1 => t_bind (bn hy) fun _ h2 => t_addrCmp L _ h1 h2
  · exact t_bind (bn hx) fun _ h1 => t_addrMod L _ h1 _
  · exact t_bind (bn hx) fun _ h1 => t_addrMod L _ h1 _
  · exact t_bind (bn hy) fun _ h1 => t_addrMod L _ h1 _
  · exact t_addr
  · exact t_addr
  · exact t_stuck _
end
end Go.Proofs.YtmmjlngbiilagaaGreatDoor
