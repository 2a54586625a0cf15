/-
  giro/girolaw50.GatewayNil answers true at every message and leaves it as it was, on every schedule, without a data race.
  CONDITIONS: the row's own: the four package-level variables that it lists start as the program's text lays them (the card ties them); calm; the clocks may advance.
-/
import Derived.Test.YtmmjlngbiilagaaDoorT15
import Derived.Test.YtmmjlngbiilagaaDoorTie
import Derived.Test.YtmmjlngbiilagaaDoorCards
import Derived.Conc.LeavingOf
import Derived.Conc.HoldsTime
import Derived.SevenTiedAt
import Derived.SevenTiedPlain
import Derived.Carry

namespace Go.Proofs.YtmmjlngbiilagaaDoor
open Go Go.Conc Go.RowKit Go.ChangeShapes Go.WideShapes Go.ChangeAt Go.ConcM Go.Joins

section
variable {H : Type} {enc : TypeId × Value → H}
/-- The kit's 'returnsInLeavingWide_of_change_time' with a condition on memory beside what is read. -/
theorem returns_laid {a : Assume} {C : Checked} {os : Os} {f : FuncId} {fn : Func} {s : ChangeSpec} {F : Stop.Interp} {conds : List PathCond} {apart fresh handsOn : Bool} {X : World → Prop}
    (hX : ∀ (w w' : World), w.heap = w'.heap → X w → X w')
    (own : ownKnob C.prog.godebug = none) (started : os.Started) (hfn : C.prog.funcs[f]? = some fn)
    (witness : ∃ (w : World) (tape : Tape) (i : Input), w.os = os ∧ (w.forCall tape i).Shaped C.prog ∧ i.vars = [] ∧ Input.okWide C.prog (w.forCall tape i) .any w.heap.size f i ∧
      ((s.pre enc C.prog fn conds apart (w.forCall tape i).memory i.args ∧ X (w.forCall tape i).memory) ∧ sizedMet enc C.prog fn (OpenSpec.ofChange s) apart (w.forCall tape i).memory i.args) ∧ a.holds C.prog (lone (Frame.enter C.prog f i.args .normal) [] (w.forCall tape i)))
    (runs : ∀ (W : World) (base : Nat) (args : Array Value) (ds gs : List (DataW H)) (before : List MemPlace),
      (∀ (j : Nat) t v, fn.params[j]? = some t → args[j]? = some v → Value.okWide C.prog W .any base t v) →
      DataW.Whole enc C.prog fn.params.toList s.vars apart W args.toList ds gs before →
      conds.all (PathCond.test C.prog ⟨fn.params.toList, ds, s.plain.varTypes C.prog, gs⟩) = true → X W →
      ∃ M last o w' t', runNT C.prog (M + 1) (solo (G (Frame.enter C.prog f args .normal) []) W) #[] = (.ended o w', t') ∧ runN C.prog M (solo (G (Frame.enter C.prog f args .normal) []) W) = .next last ∧
        step C.prog last = .ended o w' ∧ Conc.Good C.prog (fun v W' => s.post enc C.prog fn apart fresh handsOn false W args v { W' with os := W.os } ∧ OsLater W.os W'.os) last o w' t') :
    ReturnsInLeavingWide a C os f .any (fun w args => (s.pre enc C.prog fn conds apart w args ∧ X w) ∧ sizedMet enc C.prog fn (OpenSpec.ofChange s) apart w args) ((OpenSpec.ofChange s).postWith enc C.prog fn F (outsideKept [.timePasses]) apart fresh handsOn) := by
  refine returnsInLeavingWide_of_good own started witness ?_
  intro w tape i _ _ _ hok hpre hholds
  obtain ⟨_, _, _, fn', hfn', _, _, _, _, hval⟩ := hok
  have e : fn' = fn := Option.some.inj (hfn'.symm.trans hfn)
  subst e
  obtain ⟨⟨⟨ds, gs, before, hw, hc⟩, hx⟩, hz⟩ := hpre
  have hw' := DataW.Whole.of_heap (w' := w.forCall tape i) (by rfl) hw
  obtain ⟨M, last, o, w', t', h1, h2, h3, h4⟩ := runs (w.forCall tape i) w.heap.size i.args ds gs before hval hw' hc (hX _ _ (by rfl) hx)
  obtain ⟨v, e, hp, r1, r2, r3, r4⟩ := h4
  exact ⟨M, last, o, w', t', h1, h2, h3, v, e, postWith_blind (postWith_of_post hp.1 hp.2), r1, r2, r3, r4⟩
/-- The kit's 'ChangeSpec.witness_shaped' at the assumption 'calm'. -/
theorem witness_calm {C : Checked} {os : Os} {f : FuncId} {fn : Func} {s : ChangeSpec} {conds : List PathCond} {apart : Bool} {X : World → Prop} (w0 : World) (args : Array Value) (fuel : Nat) (hos : w0.os = os)
    (hsh : (w0.forCall (fun _ _ => 0) ⟨#[], args, []⟩).Shaped C.prog)
    (hok : Input.okWideB C.prog (w0.forCall (fun _ _ => 0) ⟨#[], args, []⟩) f ⟨#[], args, []⟩ = true)
    (hpre : s.preB enc C.prog fn conds apart (w0.forCall (fun _ _ => 0) ⟨#[], args, []⟩).memory args fuel = true)
    (hsz : s.sizedB enc C.prog fn apart (w0.forCall (fun _ _ => 0) ⟨#[], args, []⟩).memory args fuel = true)
    (hx : X (w0.forCall (fun _ _ => 0) ⟨#[], args, []⟩).memory) :
    ∃ (w : World) (tape : Tape) (i : Input), w.os = os ∧ (w.forCall tape i).Shaped C.prog ∧ i.vars = [] ∧ Input.okWide C.prog (w.forCall tape i) .any w.heap.size f i ∧
      ((s.pre enc C.prog fn conds apart (w.forCall tape i).memory i.args ∧ X (w.forCall tape i).memory) ∧ sizedMet enc C.prog fn (OpenSpec.ofChange s) apart (w.forCall tape i).memory i.args) ∧ ({ calm := true } : Assume).holds C.prog (lone (Frame.enter C.prog f i.args .normal) [] (w.forCall tape i)) :=
  ⟨w0, fun _ _ => 0, ⟨#[], args, []⟩, hos, hsh, (Input.okWide_of_okWideB (base := 0) hok).1, (Input.okWide_of_okWideB hok).2, ⟨⟨ChangeSpec.pre_of_preB hpre, hx⟩, sizedMet_of_sizedB hsz⟩, by
    simp only [Assume.holds]
    exact ⟨by simp, fun _ _ _ _ => rfl, by simp, by simp, by simp⟩⟩
end

theorem own : ownKnob Tryd.prog.godebug = none := by kernel_rfl
theorem laidOut : laidOutB Tryd.prog = true := by kernel_rfl
set_option maxRecDepth 100000 in
theorem door_met (os : Os) (args : Array Value) : laidMetH Tryd.prog Rows.gatewayNilRow.laid ((World.doorLaid Tryd.prog 45 os).forCall (fun _ _ => 0) ⟨#[], args, []⟩).memory :=
  laidMetH_of_parts3 (fuel := 8) (laidMet_of_run' 8 (by kernel_rfl) (by kernel_rfl)) (by kernel_rfl) (by kernel_rfl)
theorem struct23 : Tryd.prog.underlying 23 = some (.struct #[⟨ "Tick", 3, 0, false, "", "", 0⟩, ⟨ "Member", 9, 1, false, "", "", 8⟩, ⟨ "Seq", 3, 2, false, "", "", 24⟩, ⟨ "Payload", 9, 3, false, "", "", 32⟩]) := by kernel_rfl
set_option maxRecDepth 100000 in
theorem m4_of {H : Type} {enc : TypeId × Value → H} {W : World} {base : Nat} {v : Value} {d : DataW H} {p : List MemPlace} (hv : Value.okWide Tryd.prog W .any base 23 v) (h : DataW.Trod enc Tryd.prog W 0 (fun _ => true) true 23 v d p) : ∃ x : M4, v = x.val := by
  obtain ⟨v0, v1, v2, v3, y0, y1, y2, y3, n, rfl, _, _, h0, h1, h2, h3⟩ := open_agg4 struct23 (by kernel_rfl) (by kernel_rfl) hv h
  obtain ⟨a, ea, _⟩ := DataW.trod_int Tryd.underlying3 (show DataW.trod _ _ _ _ _ _ _ 3 [v0] = _ from h0)
  obtain ⟨b, eb, _⟩ := DataW.trod_string Tryd.underlying9 (show DataW.trod _ _ _ _ _ _ _ 9 [v1] = _ from h1)
  obtain ⟨c, ec, _⟩ := DataW.trod_int Tryd.underlying3 (show DataW.trod _ _ _ _ _ _ _ 3 [v2] = _ from h2)
  obtain ⟨e, ee, _⟩ := DataW.trod_string Tryd.underlying9 (show DataW.trod _ _ _ _ _ _ _ 9 [v3] = _ from h3)
  simp only [List.cons.injEq, and_true] at ea eb ec ee
  subst ea eb ec ee
  exact ⟨⟨a, b, c, e⟩, rfl⟩
set_option maxRecDepth 100000 in
theorem enterG (x : M4) : Frame.enter Tryd.prog 3 #[x.val] .normal = (base 3).at ⟨(x.val :: undef :: undef :: undef :: undef :: undef :: undef :: undef :: undef :: undef :: undef :: undef :: undef :: undef :: undef :: undef :: undef :: undef :: undef :: undef :: undef :: undef :: undef :: undef :: undef :: undef :: undef :: undef :: undef :: undef :: undef :: undef :: undef :: undef :: undef :: undef :: undef :: undef :: undef :: undef :: undef :: undef :: undef :: undef :: undef :: undef :: undef :: undef :: undef :: undef :: undef :: undef :: undef :: undef :: undef :: undef :: undef :: undef :: undef :: undef :: undef :: undef :: undef :: undef :: undef :: undef :: undef :: undef :: undef :: undef :: undef :: []).toArray, []⟩ [.code bodyG] := by
  rw [enter_at (c := bodyG) #[x.val] Tryd.func3 (by rfl)]
  simp only [Tryd.ntmps3, List.size_toArray, List.length_cons, List.length_nil, Nat.reduceAdd, Nat.reduceSub, Array.replicate_succ, Array.replicate_zero, List.push_toArray, List.append_toArray, List.nil_append, List.cons_append]

set_option maxRecDepth 100000 in
theorem nil_lifted (os : Os) (started : os.Started) (H : Type) (enc : TypeId × Value → H) (F : Stop.Interp) :
    ReturnsInLeavingWide Rows.gatewayNilRow.assume Tryd.checked os 3 .any (fun w args => (Rows.gatewayNilSpec.pre enc Tryd.prog Tryd.f3 Rows.gatewayNilRow.domain false w args ∧ laidMetH Tryd.prog Rows.gatewayNilRow.laid w) ∧ sizedMet enc Tryd.prog Tryd.f3 (OpenSpec.ofChange Rows.gatewayNilSpec) false w args)
      ((OpenSpec.ofChange Rows.gatewayNilSpec).postWith enc Tryd.prog Tryd.f3 F (outsideKept [.timePasses]) false true false) := by
  refine returns_laid (C := Tryd.checked) (X := fun w => laidMetH Tryd.prog Rows.gatewayNilRow.laid w) (fun _ _ hh h => h.of_heap hh) own started Tryd.func3
    (witness_calm (enc := enc) (C := Tryd.checked) (os := os) (X := fun w => laidMetH Tryd.prog Rows.gatewayNilRow.laid w) (World.doorLaid Tryd.prog 45 os) #[.agg #[.int .i64 0, .string ⟨#[]⟩, .int .i64 0, .string ⟨#[]⟩]] 8 rfl (World.shaped_of_RefB (by kernel_rfl) (by kernel_rfl)) (by kernel_rfl) (by kernel_rfl) (by kernel_rfl) (door_met os _)) ?_
  intro W base args ds gs before hval0 hW _ hL
  have hval : ∀ (j : Nat) t v, Tryd.f3.params[j]? = some t → args[j]? = some v → Value.okWide Tryd.prog W .any base t v := hval0
  have hW' := hW
  obtain ⟨p, q, hA0, hV, rfl, _, _⟩ := hW
  have hA : DataW.TrodAll enc Tryd.prog W 0 (fun _ => true) true Tryd.f3.params.toList args.toList ds p := hA0
  rw [Tryd.params3] at hA hval
  obtain ⟨v0, d0, rfl, rfl, h0⟩ := trodAll_one hA
  obtain ⟨rfl, rfl⟩ := trodVars_none hV
  clear hA0 hval0
  simp only [List.append_nil] at hW'
  obtain ⟨x, rfl⟩ := m4_of (hval 0 23 v0 rfl rfl) h0
  obtain ⟨sb, so, kc, hk⟩ := kinds_at hL
  have hlt : ∀ y ∈ p, y.block < W.heap.size := fun y hy => by simpa using hW'.lt y hy
  obtain ⟨k, hG⟩ := nilIn
  have hG' := hG sb so kc x W hk
  have hrun := fanWhole (fun _ _ _ h => h) hG'
  obtain ⟨M, last, o, w', t', r1, r2, r3, v, e, hp, g1, g2, g3, g4⟩ := hrun
  have hen := enterG x
  refine ⟨M, last, o, w', t', by rw [← hen] at r1; exact r1, by rw [← hen] at r2; exact r2, r3, v, e, ⟨?_, ⟨0, by rw [hp.2.os]; simp⟩⟩, g1, g2, g3, g4⟩
  obtain ⟨rfl, hk'⟩ := hp
  have hbel : Below W.heap.size W { w' with os := W.os } := ⟨rfl, hk'.tape, hk'.output, hk'.size, hk'.block⟩
  exact ⟨_, _, _, [], p, [], hW', trodAll_mk1 (shut_bool Tryd.underlying4 _), trodAll_mk1 (hbel.trod laidOut (by kernel_rfl) (of_decide_eq_true (by kernel_rfl)) h0 hlt), rfl, hbel.frame _, fun h => by cases h⟩

/-- THE ROW. -/
theorem gatewayNil_row : Rows.GatewayNilSaid :=
  OpenClaim.holds_of_wide_leaving_time 3 Tryd.f3 rfl rfl rfl rfl rfl rfl rfl ⟨rfl, rfl, rfl, rfl, rfl⟩ rfl rfl rfl rfl rfl (by kernel_rfl) Tryd.func3 (by kernel_rfl)
    (of_decide_eq_true (by kernel_rfl)) (by unfold Func.isWrapper; first | (rw [if_pos (by decide +kernel)]; kernel_rfl) | (rw [if_neg (by decide +kernel)]; exact ⟨rfl, rfl⟩))
    (fun os started H enc _ F => nil_lifted os started H enc F)

/-- THE TIED CARD. -/
theorem gatewayNil_holds : Rows.GatewayNilCardSaid := by
  have hl : ∀ f fn, Tryd.pinned.checked.prog.funcNamed Rows.gatewayNilRow.func = some f → Tryd.pinned.checked.prog.funcs[f]? = some fn → false = Tryd.pinned.checked.prog.looks [] ∧ ∀ (j : Nat) t, fn.params[j]? = some t → Tryd.pinned.checked.prog.wantsStandIn t = false := fun f fn hf hfn => by
    obtain rfl : f = 3 := Option.some.inj ((show Tryd.prog.funcNamed "giro/girolaw50.GatewayNil" = some 3 by kernel_rfl).symm.trans hf) |>.symm
    obtain rfl : fn = Tryd.f3 := (Option.some.inj (Tryd.func3.symm.trans hfn)).symm
    exact ⟨by kernel_rfl, fun j t ht => by
      rw [Tryd.params3] at ht
      have hm : t ∈ [23] := by simpa using Array.mem_of_getElem? ht
      have hall : ([23].all fun u => !Tryd.prog.wantsStandIn u) = true := by kernel_rfl
      exact (show Tryd.prog.wantsStandIn t = false by simpa using List.all_eq_true.1 hall t hm)⟩
  have h6 : Claim7.isSixth { stood := { row := Rows.gatewayNilRow, standIns := [], harness := Rows.gatewayNilCard.stood.harness, looks := false }, kinds := [] } = false := by kernel_rfl
  exact ⟨Claim7.tied_new_at .later [.data, .data, .data, .funcsDeep] true (Claim7.new_of_sixth gatewayNil_row _ false rfl ⟨rfl, rfl⟩ (by kernel_rfl) h6 hl) (by kernel_rfl), fun D hD => (by cases hD), gatewayNil_row_tie, (fun h => by cases h), by kernel_rfl⟩
#print axioms gatewayNil_holds
end Go.Proofs.YtmmjlngbiilagaaDoor
