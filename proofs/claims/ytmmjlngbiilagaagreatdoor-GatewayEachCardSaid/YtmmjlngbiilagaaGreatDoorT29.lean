/-
  giro/girolaw50.GatewayEach answers true at every list of streams and every byte and leaves them as they were, on every schedule, without a data race.
  CONDITIONS: the row's own: the five package-level variables that it lists start as the program's text lays them (the card ties them to a PRUNED COPY of the project: it says nothing of the project's other packages, commands or tests).
-/
import Derived.Test.YtmmjlngbiilagaaGreatDoorT28
import Derived.Test.YtmmjlngbiilagaaGreatDoorTie
import Derived.Test.YtmmjlngbiilagaaGreatDoorCards
import Derived.Conc.LeavingOf
import Derived.Conc.Holds
import Derived.SevenTiedAt
import Derived.SevenTiedPlain
import Derived.Carry

namespace Go.Proofs.YtmmjlngbiilagaaGreatDoor
open Go Go.Conc Go.RowKit Go.ChangeShapes Go.WideShapes Go.ChangeAt Go.Joins

section
variable {H : Type} {enc : TypeId × Value → H}
/-- The kit's 'returnsInLeavingWide_of_change_sized' with a condition on memory beside what is read. -/
theorem returns_laid {a : Assume} {C : Checked} {os : Os} {f : FuncId} {fn : Func} {s : ChangeSpec} {conds : List PathCond} {apart fresh handsOn again : Bool} {X : World → Prop}
    (hX : ∀ (w w' : World), w.heap = w'.heap → X w → X w')
    (own : ownKnob C.prog.godebug = none) (started : os.Started) (hfn : C.prog.funcs[f]? = some fn)
    (witness : ∃ (w : World) (tape : Tape) (i : Input), w.os = os ∧ (w.forCall tape i).Shaped C.prog ∧ i.vars = [] ∧ Input.okWide C.prog (w.forCall tape i) .any w.heap.size f i ∧
      ((s.pre enc C.prog fn conds apart (w.forCall tape i).memory i.args ∧ X (w.forCall tape i).memory) ∧ sizedMet enc C.prog fn (OpenSpec.ofChange s) apart (w.forCall tape i).memory i.args) ∧ a.holds C.prog (lone (Frame.enter C.prog f i.args .normal) [] (w.forCall tape i)))
    (runs : ∀ (W : World) (base : Nat) (args : Array Value) (ds gs : List (DataW H)) (before : List MemPlace),
      (∀ (j : Nat) t v, fn.params[j]? = some t → args[j]? = some v → Value.okWide C.prog W .any base t v) →
      DataW.Whole enc C.prog fn.params.toList s.vars apart W args.toList ds gs before →
      conds.all (PathCond.test C.prog ⟨fn.params.toList, ds, s.plain.varTypes C.prog, gs⟩) = true →
      (DataW.weightsEach C.prog (fn.params.toList ++ s.plain.varTypes C.prog) (ds ++ gs)).all (· ≤ reachBytes) = true → X W →
      ∃ M last o w' t', runNT C.prog (M + 1) (solo (G (Frame.enter C.prog f args .normal) []) W) #[] = (.ended o w', t') ∧ runN C.prog M (solo (G (Frame.enter C.prog f args .normal) []) W) = .next last ∧
        step C.prog last = .ended o w' ∧ Conc.Good C.prog (fun v W' => s.post enc C.prog fn apart fresh handsOn again W args v W') last o w' t') :
    ReturnsInLeavingWide a C os f .any (fun w args => (s.pre enc C.prog fn conds apart w args ∧ X w) ∧ sizedMet enc C.prog fn (OpenSpec.ofChange s) apart w args) (s.post enc C.prog fn apart fresh handsOn again) := by
  refine returnsInLeavingWide_of_good own started witness ?_
  intro w tape i _ _ _ hok hpre _
  obtain ⟨_, _, _, fn', hfn', _, _, _, _, hval⟩ := hok
  have e : fn' = fn := Option.some.inj (hfn'.symm.trans hfn)
  subst e
  obtain ⟨⟨⟨ds, gs, before, hw, hc⟩, hx⟩, hz⟩ := hpre
  have hw' := DataW.Whole.of_heap (w' := w.forCall tape i) (by rfl) hw
  obtain ⟨M, last, o, w', t', h1, h2, h3, h4⟩ := runs (w.forCall tape i) w.heap.size i.args ds gs before hval hw' hc (hz.weights hw) (hX _ _ (by rfl) hx)
  exact ⟨M, last, o, w', t', h1, h2, h3, h4.mono fun v hp => ChangeSpec.post_blind hp⟩
/-- The kit's 'ChangeSpec.witness_shaped' at a condition on memory. -/
theorem witness_laid {C : Checked} {os : Os} {f : FuncId} {fn : Func} {s : ChangeSpec} {conds : List PathCond} {apart : Bool} {X : World → Prop} (w0 : World) (args : Array Value) (fuel : Nat) (hos : w0.os = os)
    (hsh : (w0.forCall (fun _ _ => 0) ⟨#[], args, []⟩).Shaped C.prog)
    (hok : Input.okWideB C.prog (w0.forCall (fun _ _ => 0) ⟨#[], args, []⟩) f ⟨#[], args, []⟩ = true)
    (hpre : s.preB enc C.prog fn conds apart (w0.forCall (fun _ _ => 0) ⟨#[], args, []⟩).memory args fuel = true)
    (hsz : s.sizedB enc C.prog fn apart (w0.forCall (fun _ _ => 0) ⟨#[], args, []⟩).memory args fuel = true)
    (hx : X (w0.forCall (fun _ _ => 0) ⟨#[], args, []⟩).memory) :
    ∃ (w : World) (tape : Tape) (i : Input), w.os = os ∧ (w.forCall tape i).Shaped C.prog ∧ i.vars = [] ∧ Input.okWide C.prog (w.forCall tape i) .any w.heap.size f i ∧
      ((s.pre enc C.prog fn conds apart (w.forCall tape i).memory i.args ∧ X (w.forCall tape i).memory) ∧ sizedMet enc C.prog fn (OpenSpec.ofChange s) apart (w.forCall tape i).memory i.args) ∧ ({} : Assume).holds C.prog (lone (Frame.enter C.prog f i.args .normal) [] (w.forCall tape i)) :=
  ⟨w0, fun _ _ => 0, ⟨#[], args, []⟩, hos, hsh, (Input.okWide_of_okWideB (base := 0) hok).1, (Input.okWide_of_okWideB hok).2, ⟨⟨ChangeSpec.pre_of_preB hpre, hx⟩, sizedMet_of_sizedB hsz⟩, by
    simp only [Assume.holds]
    exact ⟨by simp, by simp, by simp, by simp, by simp⟩⟩
end

theorem own0 : ownKnob Tryz.prog.godebug = none := by kernel_rfl
theorem laidOut0 : laidOutB Tryz.prog = true := by kernel_rfl
set_option maxRecDepth 100000 in
theorem door_met (os : Os) (args : Array Value) : laidMetH Tryz.prog Rows.gatewayEachRow.laid ((World.doorLaid Tryz.prog 52 os).forCall (fun _ _ => 0) ⟨#[], args, []⟩).memory :=
  laidMetH_of_parts3 (fuel := 8) (laidMet_of_run' 8 (by kernel_rfl) (by kernel_rfl)) (by kernel_rfl) (by kernel_rfl)
/-- What the call may lean on, at the start. -/
theorem geIn_at {W : World} {A : Option Addr} {L : List Strm} {sb so kc : Nat} (hS : SRow W W.heap.size A L) (hk : KindsAt sb so kc W) (hE : ErrT W) (ht : Lib.TabIs Tryz.prog W "internal/strconv.uint64pow10" .u64 Lib.pow10Tab)
    (hl : L.length ≤ 4000000000000) (hm : ∀ s ∈ L, s.ms.length ≤ 4000000000000 ∧ s.mem.size ≤ maxLen ∧ ∀ y ∈ s.ms, y.m.size ≤ maxLen) : GeIn (gbAll W) (fun _ => False) A L.length L sb so kc (dulled W) where
  gl := fun _ _ => trivial
  g6 := trivial
  gF := fun _ => trivial
  lt := fun _ h => h.elim
  emp := fun _ h => h.elim
  low := fun _ _ h => h
  row := (srow_dulled hS).more (by simp [dulled])
  len := rfl
  kinds := kinds_dulled hk
  errT := dulled_cell hE
  tab := tab_dulled ht
  z1 := fun x hx => (hm x hx).1
  z2 := hl
  z3 := fun x hx => (hm x hx).2.1
  z4 := fun x hx => (hm x hx).2.2
/-- The whole call, at every input. -/
theorem each_top {W : World} {A : Option Addr} {L : List Strm} {sb so kc : Nat} (h : GeIn (gbAll W) (fun _ => False) A L.length L sb so kc (dulled W)) (cap q : Nat) :
    TopV Vh Tryz.prog (gbAll W) 3 #[.slice A L.length cap, .int .u8 q] (fun _ => False) (dulled W) (GeR (fun _ => False) (dulled W)) := by
  by_cases hf : Fits L
  · by_cases hE : allE L = 0
    · by_cases hc : q % 20 < (rmg (L.flatMap fun x => x.ms)).length
      · exact ge_many h q hf hE hc
      · exact ge_few h q hf hE (by omega)
    · exact ge_bad h q hf hE
  · exact ge_no h q hf
theorem each_run {W : World} {A : Option Addr} {L : List Strm} {sb so kc : Nat} (h : GeIn (gbAll W) (fun _ => False) A L.length L sb so kc (dulled W)) (cap q : Nat) :
    ∃ M last o w' t', runNT Tryz.prog (M + 1) (solo (G (Frame.enter Tryz.prog 3 #[.slice A L.length cap, .int .u8 q] .normal) []) W) #[] = (.ended o w', t') ∧ runN Tryz.prog M (solo (G (Frame.enter Tryz.prog 3 #[.slice A L.length cap, .int .u8 q] .normal) []) W) = .next last ∧ step Tryz.prog last = .ended o w' ∧
      Conc.Good Tryz.prog (fun z w' => z = .bool true ∧ w'.tape = W.tape ∧ w'.os = W.os ∧ w'.output = W.output ∧ W.heap.size ≤ w'.heap.size ∧ ∀ b, b < W.heap.size → w'.heap[b]? = W.heap[b]?) last o w' t' :=
  top_run (Q := fun z _ => z = .bool true) (each_top h cap q) (fun F' z v' ⟨hz, hk, hold⟩ => by
    have hs : (dulled W).heap.size = W.heap.size := by simp [dulled]
    exact ⟨hz, hk.os, hk.output, hs ▸ hk.size, fun b hb => ⟨hk.block b (by rw [hs]; exact hb) id, fun hF => hold b (by rw [hs]; exact hb) hF⟩⟩) fun _ _ _ h => h

set_option maxRecDepth 100000 in
theorem each_lifted (os : Os) (started : os.Started) (H : Type) (enc : TypeId × Value → H) :
    ReturnsInLeavingWide Rows.gatewayEachRow.assume Tryz.checked os 3 .any (fun w args => (Rows.gatewayEachSpec.pre enc Tryz.prog Tryz.f3 Rows.gatewayEachRow.domain false w args ∧ laidMetH Tryz.prog Rows.gatewayEachRow.laid w) ∧ sizedMet enc Tryz.prog Tryz.f3 (OpenSpec.ofChange Rows.gatewayEachSpec) false w args)
      (Rows.gatewayEachSpec.post enc Tryz.prog Tryz.f3 false true false false) := by
  refine returns_laid (C := Tryz.checked) (X := fun w => laidMetH Tryz.prog Rows.gatewayEachRow.laid w) (fun _ _ hh h => h.of_heap hh) own0 started Tryz.func3
    (witness_laid (enc := enc) (C := Tryz.checked) (os := os) (X := fun w => laidMetH Tryz.prog Rows.gatewayEachRow.laid w) (World.doorLaid Tryz.prog 52 os) #[.slice none 0 0, .int .u8 0] 8 rfl (World.shaped_of_RefB (by kernel_rfl) (by kernel_rfl)) (by kernel_rfl) (by kernel_rfl) (by kernel_rfl) (door_met os _)) ?_
  intro W base args ds gs before hval0 hW _ hz hL
  have hval : ∀ (j : Nat) t v, Tryz.f3.params[j]? = some t → args[j]? = some v → Value.okWide Tryz.prog W .any base t v := hval0
  have hW' := hW
  obtain ⟨p, q, hA0, hV, rfl, _, _⟩ := hW
  have hA : DataW.TrodAll enc Tryz.prog W 0 (fun _ => true) true Tryz.f3.params.toList args.toList ds p := hA0
  rw [Tryz.params3] at hA hval
  obtain ⟨v0, v1, d0, d1, p0, p1, rfl, rfl, rfl, h0, h1⟩ := trodAll_two hA
  obtain ⟨rfl, rfl⟩ := trodVars_none hV
  clear hA0 hval0
  simp only [List.append_nil] at hW'
  obtain ⟨qi, rfl, rfl, rfl, hq⟩ := open_int (show Tryz.prog.underlying 5 = some (.int .u8) by kernel_rfl) (hval 1 5 v1 rfl rfl) h1
  obtain ⟨fuel, hf0⟩ := id h0
  have hz0 : ∀ k ∈ d0.weights Tryz.prog 22, k ≤ reachBytes := fun k hk => by
    have := List.all_eq_true.1 hz k (DataW.weights_mem_each (j := 0) (t := 22) (d := d0) (by rw [show Tryz.checked.prog = Tryz.prog from rfl, Tryz.params3]; rfl) rfl k hk)
    simpa using this
  obtain ⟨A, L, cap, rfl, hS, hl, hm⟩ : ∃ (A : Option Addr) (L : List Strm) (cap : Nat), v0 = .slice A L.length cap ∧ SRow W W.heap.size A L ∧ L.length ≤ 4000000000000 ∧ ∀ s ∈ L, s.ms.length ≤ 4000000000000 ∧ s.mem.size ≤ maxLen ∧ ∀ y ∈ s.ms, y.m.size ≤ maxLen := by
    obtain ⟨a, len, cap, rfl⟩ := okWide_slice argULS (hval 0 22 v0 rfl rfl)
    exact srow_of (show DataW.trod _ _ _ _ _ _ _ _ [Value.slice a len cap] = _ from hf0) hz0
  obtain ⟨qn, rfl⟩ : ∃ n : Nat, qi = (n : Int) := ⟨qi.toNat, by
    have : 0 ≤ qi := by
      have h1 : IntKind.u8.min = 0 := by decide
      simp only [Lit.wf, Bool.and_eq_true, decide_eq_true_eq] at hq
      omega
    omega⟩
  obtain ⟨sb, so, kc, hk⟩ := kinds_at hL
  have hlt : ∀ y ∈ p0 ++ [], y.block < W.heap.size := fun y hy => by simpa using hW'.lt y (by simpa using hy)
  have hG := geIn_at hS hk (errT_at hL) (tab_at hL) hl hm
  obtain ⟨M, last, o, w', t', r1, r2, r3, r4⟩ := each_run hG cap qn
  refine ⟨M, last, o, w', t', r1, r2, r3, r4.mono fun z hp => ?_⟩
  obtain ⟨rfl, e1, e2, e3, e4, e5⟩ := hp
  have hbel : Below W.heap.size W w' := ⟨e2, e1, e3, e4, e5⟩
  exact ⟨_, _, _, [], p0 ++ [], [], hW', trodAll_mk1 (shut_bool Tryz.underlying4 _), trodAll_mk2 (hbel.trod laidOut0 (by kernel_rfl) (of_decide_eq_true (by kernel_rfl)) h0 fun y hy => hlt y (by simpa using hy)) (shut_int (show Tryz.prog.underlying 5 = some (.int .u8) by kernel_rfl) hq), rfl, hbel.frame _, fun h => by cases h⟩

/-- THE ROW. -/
theorem gatewayEach_row : Rows.GatewayEachSaid :=
  OpenClaim.holds_of_wide_leaving 3 Tryz.f3 rfl rfl rfl rfl rfl rfl rfl ⟨rfl, rfl, rfl, rfl, rfl⟩ rfl rfl rfl rfl rfl (by kernel_rfl) Tryz.func3 (by kernel_rfl)
    (of_decide_eq_true (by kernel_rfl)) (by unfold Func.isWrapper; first | (rw [if_pos (by decide +kernel)]; kernel_rfl) | (rw [if_neg (by decide +kernel)]; exact ⟨rfl, rfl⟩))
    (fun os started H enc _ => each_lifted os started H enc)

/-- THE TIED CARD. -/
theorem gatewayEach_holds : Rows.GatewayEachCardSaid := by
  have hl : ∀ f fn, Tryz.pinned.checked.prog.funcNamed Rows.gatewayEachRow.func = some f → Tryz.pinned.checked.prog.funcs[f]? = some fn → true = Tryz.pinned.checked.prog.looks [] ∧ ∀ (j : Nat) t, fn.params[j]? = some t → Tryz.pinned.checked.prog.wantsStandIn t = false := fun f fn hf hfn => by
    obtain rfl : f = 3 := Option.some.inj ((show Tryz.prog.funcNamed "giro/girolaw50.GatewayEach" = some 3 by kernel_rfl).symm.trans hf) |>.symm
    obtain rfl : fn = Tryz.f3 := (Option.some.inj (Tryz.func3.symm.trans hfn)).symm
    exact ⟨by kernel_rfl, fun j t ht => by
      rw [Tryz.params3] at ht
      have hm : t ∈ [22, 5] := by simpa using Array.mem_of_getElem? ht
      have hall : ([22, 5].all fun u => !Tryz.prog.wantsStandIn u) = true := by kernel_rfl
      exact (show Tryz.prog.wantsStandIn t = false by simpa using List.all_eq_true.1 hall t hm)⟩
  have h6 : Claim7.isSixth { stood := { row := Rows.gatewayEachRow, standIns := [], harness := Rows.gatewayEachCard.stood.harness, looks := true }, kinds := [] } = false := by kernel_rfl
  exact ⟨Claim7.tied_new_at .later [.data, .data, .data, .handle, .funcsDeep] true (Claim7.new_of_sixth gatewayEach_row _ true rfl ⟨rfl, rfl⟩ (by kernel_rfl) h6 hl) (by kernel_rfl), fun D hD => (by cases hD), gatewayEach_row_tie, (fun h => by cases h), by kernel_rfl⟩
#print axioms gatewayEach_holds
end Go.Proofs.YtmmjlngbiilagaaGreatDoor
