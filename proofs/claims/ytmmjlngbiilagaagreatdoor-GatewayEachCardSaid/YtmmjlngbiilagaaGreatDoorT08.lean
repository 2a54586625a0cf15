/-
  THE STARTER: Merge from the loop that starts the senders to the receive of what the collector hands over.
-/
import Derived.Test.YtmmjlngbiilagaaGreatDoorT07

namespace Go.Proofs.YtmmjlngbiilagaaGreatDoor
open Go Go.Conc Go.RowKit Go.Conc.Lib Go.ConcR.Gen
open Go.ConcR (KK wgBlock WgAt stA smA rd wr mk DC0)
open Go.ConcN (WgLive AtD4 WD)

/-! ### general -/
section
variable {P : Program} {main : Bool} {R : World → World → Prop} {D : World → World → Array Event → Prop} {St : Goroutine → World → Prop} {n : Nat}
/-- A stretch that turns nothing, then the rest. -/
theorem goes_bind0 (rf : ∀ w, R w w) (hD : ∀ w, D w w #[]) : ∀ {m : Nat} {g : Goroutine} {w : World}, Goes P main R DC0 (fun g w => Goes P main R D St n g w) m g w → Goes P main R D St (n + m) g w
  | 0, _, w, h => h w (rf w)
  | m + 1, g, w, h => by
    rcases h with h | ⟨hs, h⟩
    · exact Goes.mono (h w (rf w)) (by omega)
    · refine .inr ⟨hs, fun w₁ h₁ => ?_⟩
      have := h w₁ h₁
      revert this
      cases stepG P main g w₁ <;> simp only [GStep.goes, imp_self]
      rintro ⟨⟨rfl, rfl⟩, x⟩
      exact ⟨hD _, goes_bind0 rf hD x⟩

variable {b : Frame} {a : Act} {k : List Item} {cs : List Frame} {ops : Array Oper} {i : Nat} {rest : List Nat} {o : Oper} {w : World}
/-- BY AN OPERATION. -/
theorem goes_mem (ho : ops[i]? = some o) (hw : Region.wanted o (yielded ops a.tmps) = true) (hk : b.kind ≠ .early)
    (h : ∀ w₁, R w w₁ → ∃ a' w' E, Yld P o a w₁ E a' w' ∧ (∀ es, (∀ e ∈ es, E e) → D w₁ w' es) ∧ Goes P main R D St n (G (b.at a' (.inRegion ops rest :: k)) cs) w') :
    Goes P main R D St (n + 1) (G (b.at a (.inRegion ops (i :: rest) :: k)) cs) w := by
  refine Goes.step rfl fun w₁ h₁ => ?_
  obtain ⟨a', w', E, hy, hd, hg⟩ := h w₁ h₁
  exact goes_oper_k ho hw hk fun K hK => hy.1 K (hK a' w' ⟨hd _ fun e he => hy.2 e (mem_listed he), hg⟩)

theorem dr0 {S : Nat → Prop} (w : World) : DR S w w #[] := ⟨rfl, by simp⟩
theorem dr_read {S : Nat → Prop} {bl : Nat} (hq : S bl) : ∀ es : Array Event, (∀ e ∈ es, RdB bl e) → DR S w w es := fun es h => ⟨rfl, fun e he => by
  obtain ⟨ad, rfl, rfl⟩ := h e he
  exact ⟨rfl, .inr ⟨hq, rfl⟩⟩⟩

/-- AT A RECEIVE. -/
theorem stepG_recv {x : Operand} {t e : TypeId} {z : Value} {ok : Bool} {c : Nat} (ho : ops[i]? = some o) (hw : Region.wanted o (yielded ops a.tmps) = true) (hk : b.kind ≠ .early) (hop : o.op = .recv t x ok) (hx : a.eval x = .chan (some c))
    (hu : ∃ dir, P.underlying t = some (.chan dir e)) (hz : (zeroValue e).run P w = .ok z w) :
    stepG P main (G (b.at a (.inRegion ops (i :: rest) :: k)) cs) w = .comm (core (G (b.at a (.inRegion ops (i :: rest) :: k)) cs)) #[rcase c z] true (.recv ok) w #[] := by
  obtain ⟨dir, hu⟩ := hu
  rw [stepG_comm (cases := #[rcase c z]) (blocking := true) (shape := .recv ok) (w' := w) ho hw hk (by simp [execOp, hop, hx, rcase, run_underlying hu, hz])]
  have he : (execOp a.eval o).events P w #[] = #[] := by
    unfold execOp
    have h1 : (underlying t).events P w #[] = #[] := by
      unfold underlying
      rw [Sem.events_bind]
      simp only [run_program, Result.evThen_ok, events_program]
      split <;> rfl
    simp only [hop, Sem.events_bind, run_underlying hu, Result.evThen_ok, h1, hz, evZero, Sem.events_pure]
  unfold listed
  rw [he]
  simp [seen, core_G]

/-- AT A CLOSE. -/
theorem atCl_of {ty : TypeId} {Wg Cm Cw : Nat} {S : Nat → Prop} {NextM : Value → Goroutine → World → Prop} {x : Operand} {ats : Array TypeId} (ho : ops[i]? = some o) (hw : Region.wanted o (yielded ops a.tmps) = true) (hk : b.kind ≠ .early)
    (hop : o.op = .call { callee := .builtin .close, args := #[x], argTypes := ats }) (hx : a.eval x = .chan (some Cm)) (hl : (P.funcs[b.fn]?).any (·.norace) = false) (hmw : mayWake P (G (b.at a (.inRegion ops (i :: rest) :: k)) cs) = true)
    (next : ∀ s r tm, w.heap[Cm]? = some (.chan 0 #[] false s r tm) → ∃ m, Goes P true (Rl ty Wg S) (DR S) (AtRw P ty Wg Cw S NextM) m (G (b.at (a.put o.dst (.tuple #[])) (.inRegion ops rest :: k)) cs) (w.shut Cm s r tm)) :
    AtCl P ty Wg Cm Cw S NextM (G (b.at a (.inRegion ops (i :: rest) :: k)) cs) w := by
  refine ⟨rfl, hmw, fun s r tm hc => ⟨_, ?_, next s r tm hc⟩⟩
  have hr : (execOp a.eval o).run P w = .ok (.value (.tuple #[])) (w.shut Cm s r tm) := by
    have hr := run_close_open (P := P) ats o.type hc
    unfold execOp
    simp [hop, resolve, invoke, builtin, hx, hr, World.shut]
  have he : (execOp a.eval o).events P w #[] = #[⟨.obj Cm, false, true⟩, ⟨.obj Cm, true, true⟩] := by
    have he := events_close_open (P := P) (es := #[]) ats o.type hc
    have hr := run_close_open (P := P) ats o.type hc
    unfold execOp
    simp [hop, resolve, invoke, builtin, hx, he, hr]
  rw [stepG_value (v := .tuple #[]) (w' := w.shut Cm s r tm) ho hw hk hr]
  unfold listed
  rw [he, seen_eq hl (by simp)]
end

/-- The blocks of Q stand as in w0. -/
structure SameQ (Q : Nat → Prop) (w0 w : World) : Prop where
  tape : w.tape = w0.tape
  os : w.os = w0.os
  output : w.output = w0.output
  size : w0.heap.size ≤ w.heap.size
  block : ∀ b, Q b → w.heap[b]? = w0.heap[b]?

section
variable {Q S : Nat → Prop} {w0 w w₁ : World} {ty : TypeId} {Wg : Nat}
theorem SameQ.rl (h : SameQ Q w0 w) (r : Rl ty Wg S w w₁) (hS : ∀ b, Q b → S b) : SameQ Q w0 w₁ :=
  ⟨r.tape.trans h.tape, r.os.trans h.os, r.output.trans h.output, Nat.le_trans h.size r.size, fun b hb => (r.block b (hS b hb)).trans (h.block b hb)⟩
theorem SameQ.own (h : SameQ Q w0 w) (ht : w₁.tape = w.tape) (ho : w₁.os = w.os) (hu : w₁.output = w.output) (hs : w.heap.size ≤ w₁.heap.size) (hb : ∀ b, Q b → w₁.heap[b]? = w.heap[b]?) : SameQ Q w0 w₁ :=
  ⟨ht.trans h.tape, ho.trans h.os, hu.trans h.output, Nat.le_trans h.size hs, fun b hq => (hb b hq).trans (h.block b hq)⟩
end

/-! ### Merge's text -/
noncomputable def bodyM : Code := Tryz.f16.body.getD .skip
noncomputable def loopM : Code := match bodyM with | .seq _ (.seq _ (.seq _ (.seq _ (.seq (.seq _ (.block _ (.loop c))) _)))) => c | _ => .skip
noncomputable def tailM : Code := match bodyM with | .seq _ (.seq _ (.seq _ (.seq _ (.seq _ t)))) => t | _ => .skip
noncomputable def ops13 : Array Oper := match tailM with | .seq _ (.seq (.region _ ops _) _) => ops | _ => #[]
noncomputable def tail13 : Code := match tailM with | .seq _ (.seq _ t) => t | _ => .skip
noncomputable def ops14 : Array Oper := match tailM with | .seq _ (.seq _ (.seq (.region _ ops _) _)) => ops | _ => #[]
noncomputable def tail14 : Code := match tailM with | .seq _ (.seq _ (.seq _ t)) => t | _ => .skip
noncomputable def ops16 : Array Oper := match tail14 with | .seq _ (.seq (.region _ ops _) _) => ops | _ => #[]
noncomputable def tail16 : Code := match tail14 with | .seq _ (.seq _ t) => t | _ => .skip

theorem array31 (T : Array Value) (h : T.size = 31) : ∃ v0 v1 v2 v3 v4 v5 v6 v7 v8 v9 v10 v11 v12 v13 v14 v15 v16 v17 v18 v19 v20 v21 v22 v23 v24 v25 v26 v27 v28 v29 v30 : Value,
    T = #[v0, v1, v2, v3, v4, v5, v6, v7, v8, v9, v10, v11, v12, v13, v14, v15, v16, v17, v18, v19, v20, v21, v22, v23, v24, v25, v26, v27, v28, v29, v30] := by
  obtain ⟨l⟩ := T
  simp only [List.size_toArray] at h
  rcases l with _ | ⟨v0, _ | ⟨v1, _ | ⟨v2, _ | ⟨v3, _ | ⟨v4, _ | ⟨v5, _ | ⟨v6, _ | ⟨v7, _ | ⟨v8, _ | ⟨v9, _ | ⟨v10, _ | ⟨v11, _ | ⟨v12, _ | ⟨v13, _ | ⟨v14, _ | ⟨v15, l⟩⟩⟩⟩⟩⟩⟩⟩⟩⟩⟩⟩⟩⟩⟩⟩ <;> try simp at h
  rcases l with _ | ⟨v16, _ | ⟨v17, _ | ⟨v18, _ | ⟨v19, _ | ⟨v20, _ | ⟨v21, _ | ⟨v22, _ | ⟨v23, _ | ⟨v24, _ | ⟨v25, _ | ⟨v26, _ | ⟨v27, _ | ⟨v28, _ | ⟨v29, _ | ⟨v30, _ | ⟨x, l⟩⟩⟩⟩⟩⟩⟩⟩⟩⟩⟩⟩⟩⟩⟩⟩ <;> simp at h
  exact ⟨v0, v1, v2, v3, v4, v5, v6, v7, v8, v9, v10, v11, v12, v13, v14, v15, v16, v17, v18, v19, v20, v21, v22, v23, v24, v25, v26, v27, v28, v29, v30, rfl⟩

section
variable {Wg Cm Cw bc b9 : Nat} {Q : Nat → Prop} {w0 : World} {cs : List Frame}

/-- What the starter knows once it has started all. -/
structure FK (Cm Cw bc b9 : Nat) (Q : Nat → Prop) (w0 w : World) : Prop where
  same : SameQ Q w0 w
  c : w.heap[bc]? = some (.cells #[.chan (some Cm)] 82 (0, 0))
  w9 : w.heap[b9]? = some (.cells #[.chan (some Cw)] 93 (0, 0))

/-- WHERE THE STARTER HAS RECEIVED v. -/
def NextMM (Wg : Nat) (Q : Nat → Prop) (w0 : World) (cs : List Frame) (v : Value) (g : Goroutine) (w : World) : Prop :=
  (SameQ Q w0 w ∧ WgLive lk.tWg Wg w) ∧ ∃ T : Array Value, g = G ((base 16).at ⟨T, []⟩ (.inRegion ops16 [2, 3] :: [.code tail16])) cs ∧ T.size = 31 ∧ T[30]? = some v

theorem FK.rl {w w₁ : World} (hc : Q bc) (h : FK Cm Cw bc b9 Q w0 w) (r : Rl lk.tWg Wg (fun b => Q b ∨ b = b9) w w₁) : FK Cm Cw bc b9 Q w0 w₁ :=
  ⟨h.same.rl r fun _ h => .inl h, (r.block bc (.inl hc)).trans h.c, (r.block b9 (.inr rfl)).trans h.w9⟩
theorem FK.set {w : World} (hc : bc ≠ Wg) (h9 : b9 ≠ Wg) (hq : ¬ Q Wg) (h : FK Cm Cw bc b9 Q w0 w) (i : Nat) (v : Value) : FK Cm Cw bc b9 Q w0 (w.setCell ⟨Wg, i, none⟩ v) := by
  have hb : ∀ k, k ≠ Wg → (w.setCell ⟨Wg, i, none⟩ v).heap[k]? = w.heap[k]? := fun k hk => Below.heap_setCell w ⟨Wg, i, none⟩ v k hk
  have ha := aside_setCell w ⟨Wg, i, none⟩ v
  exact ⟨h.same.own ha.tape ha.os ha.output (by rw [ha.size]; exact Nat.le_refl _) fun b hb' => hb b fun e => hq (e ▸ hb'), (hb bc hc).trans h.c, (hb b9 h9).trans h.w9⟩
theorem FK.shut {w : World} (hc : bc ≠ Cm) (h9 : b9 ≠ Cm) (hq : ¬ Q Cm) (h : FK Cm Cw bc b9 Q w0 w) (s r : Nat) (tm : Bool) : FK Cm Cw bc b9 Q w0 (w.shut Cm s r tm) := by
  have hb : ∀ k, k ≠ Cm → (w.shut Cm s r tm).heap[k]? = w.heap[k]? := fun k hk => by simp [World.shut, Array.getElem?_setIfInBounds_ne (Ne.symm hk)]
  exact ⟨h.same.own rfl rfl rfl (by simp [World.shut]) fun b hb' => hb b fun e => hq (e ▸ hb'), (hb bc hc).trans h.c, (hb b9 h9).trans h.w9⟩

set_option maxRecDepth 100000 in
set_option maxHeartbeats 4000000 in
/-- BACK FROM Wait: it closes the channel and receives. -/
theorem afterWaitM (hc : Q bc) (hcm : bc ≠ Cm) (h9m : b9 ≠ Cm) (hqm : ¬ Q Cm) (hwm : Wg ≠ Cm) (T : Array Value) (hT : T.size = 31) (t5 : T[5]? = some (.pointer (some ⟨bc, 0, none⟩))) (t9 : T[9]? = some (.pointer (some ⟨b9, 0, none⟩))) (w : World) (hF : FK Cm Cw bc b9 Q w0 w ∧ WgLive lk.tWg Wg w) :
    Goes Tryz.prog true (Rl lk.tWg Wg (fun b => Q b ∨ b = b9)) (DR fun b => Q b ∨ b = b9) (AtCl Tryz.prog lk.tWg Wg Cm Cw (fun b => Q b ∨ b = b9) (NextMM Wg Q w0 cs)) 11
      (G ((base 16).at ((⟨T, []⟩ : Act).put ((ops14[0]?).bind (·.dst)) (.tuple #[])) (.inRegion ops14 [] :: [.code tail14])) cs) w := by
  obtain ⟨v0, v1, v2, v3, v4, v5, v6, v7, v8, v9, v10, v11, v12, v13, v14, v15, v16, v17, v18, v19, v20, v21, v22, v23, v24, v25, v26, v27, v28, v29, v30, rfl⟩ := array31 T hT
  simp only [List.getElem?_toArray, List.getElem?_cons_succ, List.getElem?_cons_zero, Option.some.injEq] at t5 t9
  subst t5 t9
  have rl : ∀ {w w₁ : World}, (FK Cm Cw bc b9 Q w0 w ∧ WgLive lk.tWg Wg w) → Rl lk.tWg Wg (fun b => Q b ∨ b = b9) w w₁ → (FK Cm Cw bc b9 Q w0 w₁ ∧ WgLive lk.tWg Wg w₁) := fun h r => ⟨h.1.rl hc r, r.live h.2⟩
  simp only [ops14, tail14, ops16, tail16, tailM, bodyM, Tryz.f16, Option.getD_some]
  walk_nrm
  refine goes_bind0 (n := 6) (m := 5) Rl.refl dr0 ?_
  u_c stepG_region_end rl hF
  u_c stepG_seq rl hF
  u_reg rl hF
  refine Goes.stop (fun w₁ h₁ => ?_)
  replace hF := rl hF h₁
  clear h₁
  refine goes_mem rfl rfl (by decide) (fun w₁ h₁ => ?_)
  replace hF := rl hF h₁
  clear h₁
  refine ⟨_, _, _, yld_load1 (ad := ⟨bc, 0, none⟩) (v := .chan (some Cm)) rfl rfl (by rw [cell_of_row _ _ _ _ _ _ hF.1.c]; rfl) (Tryz.isAgg82 _) (evAgg _), dr_read (.inl hc), ?_⟩
  walk_nrm
  refine Goes.stop (fun w₁ h₁ => ?_)
  replace hF := rl hF h₁
  clear h₁
  refine atCl_of rfl rfl (by decide) rfl rfl (by kernel_rfl) (by simp [mayWake, G, Frame.at]) (fun s r tm hc' => ⟨11, ?_⟩)
  replace hF : FK Cm Cw bc b9 Q w0 _ ∧ WgLive lk.tWg Wg _ := ⟨hF.1.shut hcm h9m hqm s r tm, by
    obtain ⟨st, sm, hw⟩ := hF.2
    have hw' : (w₁.shut Cm s r tm).heap[Wg]? = w₁.heap[Wg]? := by simp [World.shut, Array.getElem?_setIfInBounds_ne (Ne.symm hwm)]
    exact ⟨st, sm, hw'.trans hw⟩⟩
  walk_nrm
  refine goes_bind0 (n := 6) (m := 5) Rl.refl dr0 ?_
  u_c stepG_region_end rl hF
  u_c stepG_seq rl hF
  u_reg rl hF
  refine Goes.stop (fun w₁ h₁ => ?_)
  replace hF := rl hF h₁
  clear h₁
  refine goes_mem rfl rfl (by decide) (fun w₁ h₁ => ?_)
  replace hF := rl hF h₁
  clear h₁
  refine ⟨_, _, _, yld_load1 (ad := ⟨b9, 0, none⟩) (v := .chan (some Cw)) rfl rfl (by rw [cell_of_row _ _ _ _ _ _ hF.1.w9]; rfl) (Tryz.isAgg93 _) (evAgg _), dr_read (.inr rfl), ?_⟩
  walk_nrm
  refine Goes.stop (fun w₁ h₁ => ?_)
  replace hF := rl hF h₁
  clear h₁
  refine ⟨rfl, .slice none 0 0, stepG_recv rfl rfl (by decide) rfl rfl ⟨_, Tryz.underlying93⟩ (Tryz.zeroValue28 _), fun v w₂ h₂ => ?_⟩
  rw [core_G, served_G]
  walk_nrm
  exact ⟨⟨hF.1.same.rl h₂ fun _ h => .inl h, h₂.live hF.2⟩, _, rfl, rfl, rfl⟩
set_option maxRecDepth 100000 in
set_option maxHeartbeats 4000000 in
/-- FROM BEHIND THE LAST go STATEMENT: Wait, and all that follows. -/
theorem wtM (hc : Q bc) (hcm : bc ≠ Cm) (h9m : b9 ≠ Cm) (hqm : ¬ Q Cm) (hwm : Wg ≠ Cm) (hcw : bc ≠ Wg) (h9w : b9 ≠ Wg) (hqw : ¬ Q Wg) (T : Array Value) (hT : T.size = 31) (t5 : T[5]? = some (.pointer (some ⟨bc, 0, none⟩))) (t6 : T[6]? = some (.pointer (some ⟨Wg, 0, none⟩)))
    (t9 : T[9]? = some (.pointer (some ⟨b9, 0, none⟩))) (w : World) (hK : FK Cm Cw bc b9 Q w0 w ∧ WgLive lk.tWg Wg w) :
    Wt Tryz.prog lk.tWg Wg Cm Cw (fun b => Q b ∨ b = b9) (NextMM Wg Q w0 cs) (G ((base 16).at ⟨T, []⟩ (.inRegion ops13 [] :: [.code tail13])) cs) w := by
  have rl : ∀ {w w₁ : World}, (FK Cm Cw bc b9 Q w0 w ∧ WgLive lk.tWg Wg w) → Rl lk.tWg Wg (fun b => Q b ∨ b = b9) w w₁ → (FK Cm Cw bc b9 Q w0 w₁ ∧ WgLive lk.tWg Wg w₁) := fun h r => ⟨h.1.rl hc r, r.live h.2⟩
  refine ⟨AnchF lk (FK Cm Cw bc b9 Q w0) Wg ((base 16).at ⟨T, []⟩ (.inRegion ops14 (0 :: []) :: [.code tail14])) cs, fun g w ⟨_, hg, _⟩ => by rw [hg]; rfl, ?_, 6 + 3, ?_⟩
  · exact waitRoundF lib (Nx := fun g w => Goes Tryz.prog true (Rl lk.tWg Wg fun b => Q b ∨ b = b9) (DR fun b => Q b ∨ b = b9) (AtCl Tryz.prog lk.tWg Wg Cm Cw (fun b => Q b ∨ b = b9) (NextMM Wg Q w0 cs)) 11 g w)
      (fun w w' r h => h.rl hc r) (fun w v h _ => h.set hcw h9w hqw 0 v) (fun w v h _ => h.set hcw h9w hqw 1 v) (fun m g w h => ⟨_, goes_bind0 Rl.refl dr0 h⟩) (fun w h => afterWaitM hc hcm h9m hqm hwm T hT t5 t9 w h)
  · have hA := waitStartF (P := Tryz.prog) (L := lk) (Wg := Wg) lib (S := fun b => Q b ∨ b = b9) (b₀ := base 16) (a₀ := ⟨T, []⟩) (ops₀ := ops14) (i₀ := 0) (rest₀ := []) (k₀ := [.code tail14]) (cs := cs) (F := FK Cm Cw bc b9 Q w0) (fun w w' r h => h.rl hc r)
    obtain ⟨v0, v1, v2, v3, v4, v5, v6, v7, v8, v9, v10, v11, v12, v13, v14, v15, v16, v17, v18, v19, v20, v21, v22, v23, v24, v25, v26, v27, v28, v29, v30, rfl⟩ := array31 T hT
    simp only [List.getElem?_toArray, List.getElem?_cons_succ, List.getElem?_cons_zero, Option.some.injEq] at t5 t6 t9
    subst t5 t6 t9
    simp only [ops13, tail13, ops14, tail14, tailM, bodyM, Tryz.f16, body_wait, waitFn, Option.getD_some] at hA ⊢
    u_c stepG_region_end rl hK
    u_c stepG_seq rl hK
    u_reg rl hK
    u_in rl hK
    refine goes_call rfl rfl (by decide) rfl lib.f_wait (nm_wait lk) rfl ⟨by u_nil, ?_⟩
    walk_nrmf waitFn
    exact Goes.mono (hA _ hK) (by omega)
end
end Go.Proofs.YtmmjlngbiilagaaGreatDoor

/-
  THE STARTER, on: the loop that starts the senders; the collector's channel; the collector's start.
-/
namespace Go.Proofs.YtmmjlngbiilagaaGreatDoor
open Go Go.Conc Go.RowKit Go.Conc.Lib Go.ConcR.Gen
open Go.ConcR (KK wgBlock WgAt stA smA rd wr mk DC0)
open Go.ConcN (WgLive AtD4 WD)

noncomputable def ops12 : Array Oper := match tailM with | .seq (.region _ ops _) _ => ops | _ => #[]
noncomputable def tail12 : Code := match tailM with | .seq _ t => t | _ => .skip
def callC (bc b9 : Nat) : Deferred := { target := .fn (.func 30) #[.pointer (some ⟨bc, 0, none⟩), .pointer (some ⟨b9, 0, none⟩)], args := #[] }

theorem mkChan80 (w : World) : (Instr.makeChan 93 (.int .i64 0)).run Tryz.prog w = .ok (.chan (some w.heap.size)) (w.alloc (.chan 0 #[] false 0 0 false)) := by
  obtain ⟨i, hi, _, _⟩ : ∃ i, Tryz.prog.info? 28 = some i ∧ True ∧ True := by
    cases h : Tryz.prog.info? 28 with
    | none => exact absurd h (by intro h; have := Tryz.sizeOf28 default; simp [sizeOf, typeInfo, h] at this)
    | some i => exact ⟨i, rfl, trivial, trivial⟩
  exact run_makeChan Tryz.underlying93 hi .i64 0 (by decide) (by simp)
theorem mkChan80e (w : World) (es : Array Event) : (Instr.makeChan 93 (.int .i64 0)).events Tryz.prog w es = es := by
  obtain ⟨i, hi, _, _⟩ : ∃ i, Tryz.prog.info? 28 = some i ∧ True ∧ True := by
    cases h : Tryz.prog.info? 28 with
    | none => exact absurd h (by intro h; have := Tryz.sizeOf28 default; simp [sizeOf, typeInfo, h] at this)
    | some i => exact ⟨i, rfl, trivial, trivial⟩
  exact events_makeChan Tryz.underlying93 hi .i64 0 (by decide) (by simp) es

section
variable {P : Program} {main : Bool} {b : Frame} {a : Act} {k : List Item} {cs : List Frame} {ops : Array Oper} {i : Nat} {rest : List Nat} {o : Oper} {w : World}
theorem stepG_val0 {v : Value} {w' : World} (ho : ops[i]? = some o) (hw : Region.wanted o (yielded ops a.tmps) = true) (hk : b.kind ≠ .early) (hr : (execOp a.eval o).run P w = .ok (.value v) w') (he : (execOp a.eval o).events P w #[] = #[]) :
    stepG P main (G (b.at a (.inRegion ops (i :: rest) :: k)) cs) w = .go (G (b.at (a.put o.dst v) (.inRegion ops rest :: k)) cs) w' #[] := by
  rw [stepG_value ho hw hk hr]
  unfold listed
  rw [he]
  simp [seen]
/-- A go statement. -/
theorem stepG_go {x : Operand} {f : Fn} {cap : Array Value} (ho : ops[i]? = some o) (hw : Region.wanted o (yielded ops a.tmps) = true) (hk : b.kind ≠ .early) (hop : o.op = .go { callee := .value x, args := #[], argTypes := #[] }) (hx : a.eval x = .func f #[] cap) :
    stepG P main (G (b.at a (.inRegion ops (i :: rest) :: k)) cs) w = .spawn (G (b.at (a.put o.dst undef) (.inRegion ops rest :: k)) cs) (born P { target := .fn f cap, args := #[] }) w #[] := by
  rw [stepG_spawn (d := { target := .fn f cap, args := #[] }) (w' := w) (f := f) (c := cap) ho hw hk (by simp [execOp, hop, resolve, hx, Deferred.ofValue]) rfl]
  have he : (execOp a.eval o).events P w #[] = #[] := by simp [execOp, hop, resolve, hx, Deferred.ofValue]
  unfold listed
  rw [he]
  simp [seen]
end

section
variable {Wg Cm bc : Nat} {Q : Nat → Prop} {w0 : World} {cs : List Frame} {Poss Full : List Value → Prop} {Res : List Value → Value → World → Prop} {tot N : Nat} {vals : Nat → List Value} {O : Nat → Prop}

set_option maxRecDepth 100000 in
set_option maxHeartbeats 4000000 in
/-- THE COLLECTOR's CHANNEL, ITS START. -/
theorem gcM (hc : Q bc) (hc0 : w0.heap[bc]? = some (.cells #[.chan (some Cm)] 82 (0, 0))) (hcm : Cm < w0.heap.size) (hwg : Wg < w0.heap.size) (hq0 : ∀ b, Q b → b < w0.heap.size) (hqm : ¬ Q Cm) (hqw : ¬ Q Wg) (hwm : Wg ≠ Cm)
    (hR : ∀ (Cw b9 : Nat) (w : World), b9 ≠ Wg → b9 ≠ Cm → b9 ≠ Cw → ¬ Q b9 → FK Cm Cw bc b9 Q w0 w ∧ WgLive lk.tWg Wg w → Rcv Tryz.prog lk.tWg Wg Cm (fun b => Q b ∨ b = b9) Cw Poss Full Res tot [] noO (born Tryz.prog (callC bc b9)) w)
    (T : Array Value) (hT : T.size = 31) (t5 : T[5]? = some (.pointer (some ⟨bc, 0, none⟩))) (t6 : T[6]? = some (.pointer (some ⟨Wg, 0, none⟩))) (w : World) (hK : SameQ Q w0 w ∧ WgLive lk.tWg Wg w) :
    AtMk Tryz.prog lk.tWg Wg Cm Q Poss Full Res (NextMM Wg Q w0 cs) tot O (G ((base 16).at ⟨T, []⟩ (.inRegion ops12 [0, 1, 2] :: [.code tail12])) cs) w := by
  have hcw : bc ≠ Wg := fun e => hqw (e ▸ hc)
  have hcm' : bc ≠ Cm := fun e => hqm (e ▸ hc)
  obtain ⟨v0, v1, v2, v3, v4, v5, v6, v7, v8, v9, v10, v11, v12, v13, v14, v15, v16, v17, v18, v19, v20, v21, v22, v23, v24, v25, v26, v27, v28, v29, v30, rfl⟩ := array31 T hT
  simp only [List.getElem?_toArray, List.getElem?_cons_succ, List.getElem?_cons_zero, Option.some.injEq] at t5 t6
  subst t5 t6
  simp only [ops12, tail12, tailM, bodyM, Tryz.f16, Option.getD_some]
  refine ⟨rfl, _, stepG_val0 (v := .chan (some w.heap.size)) (w' := w.alloc (.chan 0 #[] false 0 0 false)) rfl rfl (by decide) (by simp [execOp, Act.eval, mkChan80]) (by simp [execOp, Act.eval, mkChan80, mkChan80e]), 22, ?_⟩
  show GoesO _ _ _ _ _ _ _ _ (w.alloc (.chan 0 #[] false 0 0 false))
  obtain ⟨hS, hL⟩ := hK
  have hsz := hS.size
  obtain ⟨Cw, hCw⟩ : ∃ n, w.heap.size = n := ⟨_, rfl⟩
  have hS' : SameQ Q w0 (w.alloc (.chan 0 #[] false 0 0 false)) := hS.own rfl rfl rfl (by simp) fun b hb => heap_alloc_old w _ b (by have := hq0 b hb; omega)
  have hL' : WgLive lk.tWg Wg (w.alloc (.chan 0 #[] false 0 0 false)) := by
    obtain ⟨st, sm, hw⟩ := hL
    exact ⟨st, sm, (heap_alloc_old w _ Wg (by omega)).trans hw⟩
  have hs' : Cw < (w.alloc (.chan 0 #[] false 0 0 false)).heap.size := by simp; omega
  rw [hCw]
  generalize hw : w.alloc _ = w₁ at hS' hL' hs' ⊢
  clear hw hS hL hsz
  have hK : (SameQ Q w0 w₁ ∧ WgLive lk.tWg Wg w₁) ∧ Cw < w₁.heap.size := ⟨⟨hS', hL'⟩, hs'⟩
  clear hS' hL' hs'
  have rl : ∀ {w w₁ : World}, ((SameQ Q w0 w ∧ WgLive lk.tWg Wg w) ∧ Cw < w.heap.size) → RO lk.tWg Wg Q O w w₁ → (SameQ Q w0 w₁ ∧ WgLive lk.tWg Wg w₁) ∧ Cw < w₁.heap.size := fun h r => ⟨⟨h.1.1.rl r fun _ h => .inr h, r.live h.1.2⟩, Nat.lt_of_lt_of_le h.2 r.size⟩
  walk_nrm
  refine GoesO.mem (n := 21) rfl rfl (by decide) (fun w₂ h₂ => ?_)
  replace hK := rl hK h₂
  clear h₂ w₁
  refine ⟨_, _, _, _, yld_alloc rfl (Tryz.zeroValue93 _) (evZero _), dox_new _, ?_⟩
  obtain ⟨⟨hS, hL⟩, hlt⟩ := hK
  have hsz := hS.size
  obtain ⟨b9, hb9⟩ : ∃ n, w₂.heap.size = n := ⟨_, rfl⟩
  have n1 : b9 ≠ Wg := by omega
  have n2 : b9 ≠ Cm := by omega
  have n3 : b9 ≠ Cw := by omega
  have n4 : ¬ Q b9 := fun h => by have := hq0 _ h; omega
  have hA := heap_alloc_new w₂ (.cells (Value.chan none).cells 93)
  have hS' : SameQ Q w0 (w₂.alloc (.cells (Value.chan none).cells 93)) := hS.own rfl rfl rfl (by simp) fun b hb => heap_alloc_old w₂ _ b (by have := hq0 b hb; omega)
  have hL' : WgLive lk.tWg Wg (w₂.alloc (.cells (Value.chan none).cells 93)) := by
    obtain ⟨st, sm, hw⟩ := hL
    exact ⟨st, sm, (heap_alloc_old w₂ _ Wg (by omega)).trans hw⟩
  rw [hb9] at hA ⊢
  generalize hw : w₂.alloc _ = w₃ at hS' hL' hA ⊢
  clear hw hS hL hsz hlt hb9 w₂
  have hK := And.intro (And.intro hS' hL') hA
  clear hS' hL' hA
  have rl : ∀ {C : Array Value} {w w₁ : World}, ((SameQ Q w0 w ∧ WgLive lk.tWg Wg w) ∧ w.heap[b9]? = some (.cells C 93 (0, 0))) → RO lk.tWg Wg Q (fun b => O b ∨ b = b9) w w₁ → (SameQ Q w0 w₁ ∧ WgLive lk.tWg Wg w₁) ∧ w₁.heap[b9]? = some (.cells C 93 (0, 0)) :=
    fun h r => ⟨⟨h.1.1.rl r fun _ h => .inr h, r.live h.1.2⟩, (r.block b9 (.inl (.inr rfl))).trans h.2⟩
  walk_nrm
  refine GoesO.mem (n := 20) rfl rfl (by decide) (fun w₂ h₂ => ?_)
  replace hK := rl hK h₂
  clear h₂ w₃
  refine ⟨_, _, _, _, yld_store (v := .chan (some Cw)) rfl rfl rfl hK.2 (Tryz.sizeOf93 _) (evSize _) rfl (by simp [Value.cells, Value.oneCell']), dox_row (.inr rfl) _, ?_⟩
  have hA := setRow_heap w₂ b9 _ (Value.chan (some Cw)).cells _ _ hK.2
  have ho : ∀ k, k ≠ b9 → (w₂.setRow b9 (Value.chan (some Cw)).cells).heap[k]? = w₂.heap[k]? := fun k hk => setRow_other w₂ b9 k _ hk
  have hS' : SameQ Q w0 (w₂.setRow b9 (Value.chan (some Cw)).cells) := hK.1.1.own rfl rfl rfl (by simp) fun b hb => ho b fun e => n4 (e ▸ hb)
  have hL' : WgLive lk.tWg Wg (w₂.setRow b9 (Value.chan (some Cw)).cells) := by
    obtain ⟨st, sm, hw⟩ := hK.1.2
    exact ⟨st, sm, (ho Wg (Ne.symm n1)).trans hw⟩
  generalize hw : w₂.setRow b9 _ = w₃ at hS' hL' hA ⊢
  clear hw ho hK w₂
  have hK := And.intro (And.intro hS' hL') hA
  clear hS' hL' hA
  refine GoesO.of_goes (n := 10) (m := 10) roRf (fun _ _ x => x) ?_
  walk_nrm
  u_c stepG_region_end rl hK
  u_c stepG_seq rl hK
  u_reg rl hK
  u_op rl hK
  refine Goes.stop (fun w₁ h₁ => ?_)
  replace hK := rl hK h₁
  clear h₁
  refine GoesO.stop (fun w₁ h₁ => ?_)
  replace hK := rl hK h₁
  clear h₁
  have hFK : ∀ w, ((SameQ Q w0 w ∧ WgLive lk.tWg Wg w) ∧ w.heap[b9]? = some (.cells (Value.chan (some Cw)).cells 93 (0, 0))) → FK Cm Cw bc b9 Q w0 w ∧ WgLive lk.tWg Wg w :=
    fun w h => ⟨⟨h.1.1, (h.1.1.block bc hc).trans hc0, h.2⟩, h.1.2⟩
  refine ⟨rfl, _, _, b9, stepG_go rfl rfl (by decide) rfl rfl, rfl, .inr rfl, hR Cw b9 _ n1 n2 n3 n4 (hFK _ hK), ?_⟩
  walk_nrm
  have hW := @wtM Wg Cm Cw bc b9 Q w0 cs hc hcm' n2 hqm hwm hcw n1 hqw
  simp only [ops13, tail13, tailM, bodyM, Tryz.f16, Option.getD_some] at hW
  exact hW _ rfl rfl rfl rfl _ (hFK _ hK)
/-! ### the loop -/
noncomputable def blkM : Code := match loopM with | .seq _ (.seq _ (.seq (.block _ c) _)) => c | _ => .skip
noncomputable def nextM : Code := match loopM with | .seq _ (.seq _ (.seq _ c)) => c | _ => .skip
noncomputable def ops9 : Array Oper := match blkM with | .seq _ (.seq (.region _ ops _) _) => ops | _ => #[]
noncomputable def tail9 : Code := match blkM with | .seq _ (.seq _ t) => t | _ => .skip
/-- A stream: its member, its messages and where they lie. -/
structure St4 where
  mem : ByteArray
  a0 : Option Addr
  ba : Nat
  n : Nat
  cap : Nat
  ms : List M4
def St4.cells (x : St4) : List Value := [.string x.mem, .slice x.a0 x.n x.cap]
/-- It lies so in w0, in blocks of Q. -/
structure St4.ok (x : St4) (Q : Nat → Prop) (w0 : World) : Prop where
  len : x.ms.length = x.n
  n63 : x.n ≤ 9223372036854775807
  a0 : 0 < x.n → x.a0 = some ⟨x.ba, 0, none⟩
  q : 0 < x.n → Q x.ba
  el : ∀ (j : Nat) (y : M4), x.ms[j]? = some y → w0.rangeAt x.ba (j * 4) y.cells

/-- 'Sp' with its number of steps. -/
def SpM (Wg Cm : Nat) (Q : Nat → Prop) (N : Nat) (vals : Nat → List Value) (Poss Full : List Value → Prop) (Res : List Value → Value → World → Prop) (NextM : Value → Goroutine → World → Prop) (tot m : Nat) : Nat → (Nat → Prop) → Goroutine → World → Prop
  | 0 => fun O g w => GoesO Tryz.prog true (RO lk.tWg Wg Q) Q (AtMk Tryz.prog lk.tWg Wg Cm Q Poss Full Res NextM tot) m O g w
  | r + 1 => fun O g w => GoesO Tryz.prog true (RO lk.tWg Wg Q) Q (fun O g w =>
      AKd Tryz.prog lk.tWg Wg (fun b => O b ∨ Q b) (fun g w => ∃ m, GoesO Tryz.prog true (RO lk.tWg Wg Q) Q (AtGo Tryz.prog lk.tWg Wg Cm Q vals (N - (r + 1)) (Sp Tryz.prog lk.tWg Wg Cm Q N vals Poss Full Res NextM tot r)) m O g w) g w) m O g w
theorem SpM.sp {m : Nat} {NextM : Value → Goroutine → World → Prop} : ∀ {r : Nat} {g : Goroutine} {w : World}, SpM Wg Cm Q N vals Poss Full Res NextM tot m r O g w → Sp Tryz.prog lk.tWg Wg Cm Q N vals Poss Full Res NextM tot r O g w
  | 0, _, _, h => ⟨m, h⟩
  | _ + 1, _, _, h => ⟨m, h⟩
theorem SpM.of_goes {m m' : Nat} {NextM : Value → Goroutine → World → Prop} : ∀ {r : Nat} {g : Goroutine} {w : World}, Goes Tryz.prog true (RO lk.tWg Wg Q O) DC0 (fun g w => SpM Wg Cm Q N vals Poss Full Res NextM tot m r O g w) m' g w → SpM Wg Cm Q N vals Poss Full Res NextM tot (m + m') r O g w
  | 0, _, _, h => GoesO.of_goes roRf (fun _ _ x => x) h
  | _ + 1, _, _, h => GoesO.of_goes roRf (fun _ _ x => x) h

/-- At the loop's head, i started. -/
def AnchM (Wg bc : Nat) (A : Option Addr) (capS N : Nat) (cs : List Frame) (i : Nat) (g : Goroutine) : Prop :=
  ∃ T : Array Value, g = G ((base 16).at ⟨T, []⟩ [.code loopM, .inLoop loopM, .inBlock 0, .code tailM]) cs ∧ T.size = 31 ∧ T[5]? = some (.pointer (some ⟨bc, 0, none⟩)) ∧ T[6]? = some (.pointer (some ⟨Wg, 0, none⟩)) ∧
    T[16]? = some (.slice A N capS) ∧ T[17]? = some (.int .i64 N) ∧ T[18]? = some (.int .i64 i)

set_option maxRecDepth 100000 in
set_option maxHeartbeats 8000000 in
theorem spM {sts : List St4} {A : Option Addr} {bst capS : Nat} (hA0 : 0 < N → A = some ⟨bst, 0, none⟩) (hN : sts.length = N) (hN63 : N ≤ 9223372036854775807) (hvals : ∀ (i : Nat) (x : St4), sts[i]? = some x → vals i = x.ms.map M4.val) (hst : ∀ (i : Nat) (x : St4), sts[i]? = some x → x.ok Q w0)
    (hrow : ∀ (i : Nat) (x : St4), sts[i]? = some x → w0.rangeAt bst (i * 2) x.cells) (hqs0 : 0 < N → Q bst)
    (hc : Q bc) (hc0 : w0.heap[bc]? = some (.cells #[.chan (some Cm)] 82 (0, 0))) (hcm : Cm < w0.heap.size) (hwg : Wg < w0.heap.size) (hq0 : ∀ b, Q b → b < w0.heap.size) (hqm : ¬ Q Cm) (hqw : ¬ Q Wg) (hwm : Wg ≠ Cm)
    (hR : ∀ (Cw b9 : Nat) (w : World), b9 ≠ Wg → b9 ≠ Cm → b9 ≠ Cw → ¬ Q b9 → FK Cm Cw bc b9 Q w0 w ∧ WgLive lk.tWg Wg w → Rcv Tryz.prog lk.tWg Wg Cm (fun b => Q b ∨ b = b9) Cw Poss Full Res tot [] noO (born Tryz.prog (callC bc b9)) w) :
    ∀ (r i : Nat), i + r = N → ∃ f, ∀ (O : Nat → Prop) (g : Goroutine) (w : World), AnchM Wg bc A capS N cs i g → SameQ Q w0 w ∧ WgLive lk.tWg Wg w → SpM Wg Cm Q N vals Poss Full Res (NextMM Wg Q w0 cs) tot f r O g w := by
  intro r
  induction r with
  | zero =>
    intro i hi
    obtain rfl : i = N := by omega
    refine ⟨0 + 30, fun O g w ⟨T, hg, hT, t5, t6, t16, t17, t18⟩ hK => ?_⟩
    subst hg
    obtain ⟨v0, v1, v2, v3, v4, v5, v6, v7, v8, v9, v10, v11, v12, v13, v14, v15, v16, v17, v18, v19, v20, v21, v22, v23, v24, v25, v26, v27, v28, v29, v30, rfl⟩ := array31 T hT
    simp only [List.getElem?_toArray, List.getElem?_cons_succ, List.getElem?_cons_zero, Option.some.injEq] at t5 t6 t16 t17 t18
    subst t5 t6 t16 t17 t18
    have rl : ∀ {w w₁ : World}, (SameQ Q w0 w ∧ WgLive lk.tWg Wg w) → RO lk.tWg Wg Q O w w₁ → SameQ Q w0 w₁ ∧ WgLive lk.tWg Wg w₁ := fun h r => ⟨h.1.rl r fun _ h => .inr h, r.live h.2⟩
    have hG := @gcM Wg Cm bc Q w0 cs Poss Full Res tot O hc hc0 hcm hwg hq0 hqm hqw hwm hR
    simp only [ops12, tail12, loopM, tailM, bodyM, Tryz.f16, Option.getD_some] at hG ⊢
    have hnl : ¬ ((i : Int) < (i : Int)) := by omega
    refine SpM.of_goes ?_
    u_c stepG_seq rl hK
    u_reg rl hK
    u_op rl hK
    u_c stepG_region_end rl hK
    u_c stepG_seq rl hK
    u_cond false rl hK
    u_exit rl hK
    u_c stepG_seq rl hK
    u_reg rl hK
    refine Goes.stop (fun w₁ h₁ => ?_)
    replace hK := rl hK h₁
    clear h₁
    refine GoesO.stop (fun w₁ h₁ => ?_)
    replace hK := rl hK h₁
    clear h₁
    exact hG _ rfl rfl rfl _ hK
  | succ r ih =>
    intro i hi
    obtain ⟨f₁, h₁⟩ := ih (i + 1) (by omega)
    have hqs := hqs0 (by omega)
    obtain rfl := hA0 (by omega)
    obtain ⟨x, hx⟩ : ∃ x, sts[i]? = some x := ⟨_, List.getElem?_eq_getElem (by omega)⟩
    have hr : N - (r + 1) = i := by omega
    have hv := hvals i x hx
    have hok := hst i x hx
    have hrw := hrow i x hx
    refine ⟨100 + 30, fun O g w ⟨T, hg, hT, t5, t6, t16, t17, t18⟩ hK => ?_⟩
    subst hg
    obtain ⟨v0, v1, v2, v3, v4, v5, v6, v7, v8, v9, v10, v11, v12, v13, v14, v15, v16, v17, v18, v19, v20, v21, v22, v23, v24, v25, v26, v27, v28, v29, v30, rfl⟩ := array31 T hT
    simp only [List.getElem?_toArray, List.getElem?_cons_succ, List.getElem?_cons_zero, Option.some.injEq] at t5 t6 t16 t17 t18
    subst t5 t6 t16 t17 t18
    have rl : ∀ {w w₁ : World}, (SameQ Q w0 w ∧ WgLive lk.tWg Wg w) → RO lk.tWg Wg Q O w w₁ → SameQ Q w0 w₁ ∧ WgLive lk.tWg Wg w₁ := fun h r => ⟨h.1.rl r fun _ h => .inr h, r.live h.2⟩
    have hlt : (i : Int) < (N : Int) := by omega
    have hj0 : (0 : Int) ≤ (i : Int) := by omega
    have hA := @addPosF Tryz.prog lk Wg lib
    unfold SpM
    refine GoesO.of_goes (n := 100) (m := 30) roRf (fun _ _ x => x) ?_
    simp only [loopM, tailM, bodyM, body_add, addFn, Tryz.f16, Option.getD_some] at hA ⊢
    u_c stepG_seq rl hK
    u_reg rl hK
    u_op rl hK
    u_c stepG_region_end rl hK
    u_c stepG_seq rl hK
    u_cond true rl hK
    u_c stepG_skip rl hK
    u_c stepG_seq rl hK
    u_c stepG_block rl hK
    u_c stepG_seq rl hK
    u_reg rl hK
    u_op rl hK
    refine Goes.stop (fun w₁ h₁ => ?_)
    replace hK := rl hK h₁
    clear h₁
    -- the stream is read
    refine GoesO.mem (n := 99) rfl rfl (by decide) (fun w₁ h₁ => ?_)
    replace hK := rl hK h₁
    clear h₁
    refine ⟨_, _, _, _, yld_load (cs := x.cells) rfl rfl (rangeAt_block hrw (hK.1.block bst hqs)) (Tryz.isAgg60 _) (Tryz.sizeOf60 _) (evAgg _) (evSize _), dox_read (.inr hqs), ?_⟩
    walk_nrm
    -- its box is made
    refine GoesO.mem (n := 98) rfl rfl (by decide) (fun w₁ h₁ => ?_)
    replace hK := rl hK h₁
    clear h₁
    refine ⟨_, _, _, _, yld_alloc rfl (Tryz.zeroValue60 _) (evZero _), dox_new _, ?_⟩
    obtain ⟨hS, hL⟩ := hK
    have hsz := hS.size
    obtain ⟨bs, hbs⟩ : ∃ n, w₁.heap.size = n := ⟨_, rfl⟩
    have n1 : bs ≠ Wg := by omega
    have n2 : bs ≠ Cm := by omega
    have n4 : ¬ Q bs := fun h => by have := hq0 _ h; omega
    have hA' := heap_alloc_new w₁ (.cells (Value.agg #[.string { data := #[] }, .slice none 0 0]).cells 60)
    have hS' : SameQ Q w0 (w₁.alloc (.cells (Value.agg #[.string { data := #[] }, .slice none 0 0]).cells 60)) := hS.own rfl rfl rfl (by simp) fun b hb => heap_alloc_old w₁ _ b (by have := hq0 b hb; omega)
    have hL' : WgLive lk.tWg Wg (w₁.alloc (.cells (Value.agg #[.string { data := #[] }, .slice none 0 0]).cells 60)) := by
      obtain ⟨st, sm, hw⟩ := hL
      exact ⟨st, sm, (heap_alloc_old w₁ _ Wg (by omega)).trans hw⟩
    rw [hbs] at hA' ⊢
    generalize hw : w₁.alloc _ = w₃ at hS' hL' hA' ⊢
    clear hw hS hL hsz hbs w₁
    have hK := And.intro (And.intro hS' hL') hA'
    clear hS' hL' hA'
    have rl2 : ∀ {C : Array Value} {w w₁ : World}, ((SameQ Q w0 w ∧ WgLive lk.tWg Wg w) ∧ w.heap[bs]? = some (.cells C 60 (0, 0))) → RO lk.tWg Wg Q (fun b => O b ∨ b = bs) w w₁ → (SameQ Q w0 w₁ ∧ WgLive lk.tWg Wg w₁) ∧ w₁.heap[bs]? = some (.cells C 60 (0, 0)) :=
      fun h r => ⟨⟨h.1.1.rl r fun _ h => .inr h, r.live h.1.2⟩, (r.block bs (.inl (.inr rfl))).trans h.2⟩
    walk_nrm
    -- it is filled
    refine GoesO.mem (n := 97) rfl rfl (by decide) (fun w₂ h₂ => ?_)
    replace hK := rl2 hK h₂
    clear h₂ w₃
    refine ⟨_, _, _, _, yld_store (v := .agg x.cells.toArray) rfl rfl rfl hK.2 (Tryz.sizeOf60 _) (evSize _) rfl (by simp [Value.cells, St4.cells, Value.oneCell']), dox_row (.inr rfl) _, ?_⟩
    have hA' := setRow_heap w₂ bs _ (Value.agg x.cells.toArray).cells _ _ hK.2
    have ho : ∀ k, k ≠ bs → (w₂.setRow bs (Value.agg x.cells.toArray).cells).heap[k]? = w₂.heap[k]? := fun k hk => setRow_other w₂ bs k _ hk
    have hS' : SameQ Q w0 (w₂.setRow bs (Value.agg x.cells.toArray).cells) := hK.1.1.own rfl rfl rfl (by simp) fun b hb => ho b fun e => n4 (e ▸ hb)
    have hL' : WgLive lk.tWg Wg (w₂.setRow bs (Value.agg x.cells.toArray).cells) := by
      obtain ⟨st, sm, hw⟩ := hK.1.2
      exact ⟨st, sm, (ho Wg (Ne.symm n1)).trans hw⟩
    generalize hw : w₂.setRow bs _ = w₃ at hS' hL' hA' ⊢
    clear hw ho hK w₂
    have hK := And.intro (And.intro hS' hL') hA'
    clear hS' hL' hA'
    -- Add
    refine GoesO.of_goes (n := 60) (m := 37) roRf (fun _ _ x => x) ?_
    walk_nrm
    u_c stepG_region_end rl2 hK
    u_c stepG_seq rl2 hK
    u_reg rl2 hK
    u_in rl2 hK
    refine goes_call rfl rfl (by decide) rfl lib.f_add (nm_add lk) rfl ⟨by u_nil, ?_⟩
    walk_nrmf addFn
    refine Goes.stop (fun w₁ h₁ => ?_)
    replace hK := rl2 hK h₁
    clear h₁
    refine GoesO.mono (n := 40) ?_ (by omega)
    refine goesO_of_goes1 (R := RO lk.tWg Wg Q) (O := fun b => O b ∨ b = bs) (R' := Rl lk.tWg Wg (fun b => (O b ∨ b = bs) ∨ Q b)) (fun _ _ x => x) (fun g w x => x) ?_
    refine hA (S := fun b => (O b ∨ b = bs) ∨ Q b) (Nx := fun g w => GoesO Tryz.prog true (RO lk.tWg Wg Q) Q (AtGo Tryz.prog lk.tWg Wg Cm Q vals (N - (r + 1)) (Sp Tryz.prog lk.tWg Wg Cm Q N vals Poss Full Res (NextMM Wg Q w0 cs) tot r)) (0 + 10) (fun b => O b ∨ b = bs) g w)
      (F := fun w => SameQ Q w0 w ∧ w.heap[bs]? = some (.cells (Value.agg x.cells.toArray).cells 60 (0, 0)))
      (fun w w' r h => ⟨h.1.rl r fun _ h => .inr h, (r.block bs (.inl (.inr rfl))).trans h.2⟩) (fun w v h _ => ?_) (fun m g w h => ⟨_, GoesO.of_goes roRf (fun _ _ x => x) h⟩) (fun w h => ?_) _ ⟨⟨hK.1.1, hK.2⟩, hK.1.2⟩
    · have hb : ∀ k, k ≠ Wg → (w.setCell (stA Wg) v).heap[k]? = w.heap[k]? := fun k hk => Below.heap_setCell w ⟨Wg, 0, none⟩ v k hk
      have ha := aside_setCell w (stA Wg) v
      exact ⟨h.1.own ha.tape ha.os ha.output (by rw [ha.size]; exact Nat.le_refl _) fun b hb' => hb b fun e => hqw (e ▸ hb'), (hb bs n1).trans h.2⟩
    · clear hK hA
      have hK : (SameQ Q w0 w ∧ WgLive lk.tWg Wg w) ∧ w.heap[bs]? = some (.cells (Value.agg x.cells.toArray).cells 60 (0, 0)) := ⟨⟨h.1.1, h.2⟩, h.1.2⟩
      clear h
      refine GoesO.of_goes (n := 0) (m := 10) roRf (fun _ _ x => x) ?_
      walk_nrm
      u_c stepG_region_end rl2 hK
      u_reg rl2 hK
      u_op rl2 hK
      refine Goes.stop (fun w₁ h₁ => ?_)
      replace hK := rl2 hK h₁
      clear h₁
      refine GoesO.stop (fun w₁ h₁ => ?_)
      replace hK := rl2 hK h₁
      clear h₁
      refine ⟨rfl, _, _, noO, (fun b => b = bs), stepG_go rfl rfl (by decide) rfl rfl, rfl, fun b h => h.elim, fun b h => .inr h, fun b _ h => h, ?_, ?_⟩
      · rw [hr, hv]
        refine sendsAll (O := fun b => b = bs) (n := x.n) (cap := x.cap) (a0 := x.a0) (ba := x.ba) hok.n63 hok.len hok.a0 hc hok.q rfl _ ⟨⟨_, hK.2⟩, (hK.1.1.block bc hc).trans hc0, fun j y hy => rangeAt_block (hok.el j y hy) (hK.1.1.block _ (hok.q ?_)), hK.1.2⟩ hqw
        have := (List.getElem?_eq_some_iff.1 hy).1
        have := hok.len
        omega
      · have hi64 : IntKind.i64.wrap ((i : Int) + 1) = ((i + 1 : Nat) : Int) := by rw [IntKind.wrap_i64]; omega
        have hK2 := hK.1
        clear hK
        have rl3 : ∀ {w w₁ : World}, (SameQ Q w0 w ∧ WgLive lk.tWg Wg w) → RO lk.tWg Wg Q noO w w₁ → SameQ Q w0 w₁ ∧ WgLive lk.tWg Wg w₁ := fun h r => ⟨h.1.rl r fun _ h => .inr h, r.live h.2⟩
        refine SpM.sp (m := f₁ + 20) (SpM.of_goes ?_)
        walk_nrm
        u_c stepG_region_end rl3 hK2
        u_c stepG_inBlock rl3 hK2
        u_reg rl3 hK2
        u_op rl3 hK2
        u_op rl3 hK2
        u_c stepG_region_end rl3 hK2
        u_c stepG_inLoop rl3 hK2
        exact Goes.stop fun w₃ h₃ => h₁ _ _ _ ⟨_, rfl, rfl, rfl, rfl, rfl, rfl, by simp [hi64]⟩ (rl3 hK2 h₃)
end
end Go.Proofs.YtmmjlngbiilagaaGreatDoor

/-
  A REGION THAT DRAWS ITS ORDER, CALLS AMONG ITS OPERATIONS: whatever order comes up; what each operation leaves is said once, of every state in which what it waits for is done.
-/
namespace Go.Proofs.YtmmjlngbiilagaaGreatDoor
open Go Go.Conc

section
variable {P : Program} {main : Bool} {R : World → World → Prop} {D : World → World → Array Event → Prop} {fn : FuncId} {ops : Array Oper}

/-- What holds while the region's operations come up: L: which have. -/
structure RJ (ops : Array Oper) (a0 : Act) (V : Nat → Value → World → Prop) (S : (Nat → Bool) → World → Prop) (L : Nat → Bool) (a : Act) (w : World) : Prop where
  s : S L w
  defers : a.defers = a0.defers
  size : a.tmps.size = a0.tmps.size
  other : ∀ s, (∀ j o, ops[j]? = some o → L j = true → o.dst ≠ some s) → a.tmps[s]? = a0.tmps[s]?
  done : ∀ j o s, ops[j]? = some o → L j = true → o.dst = some s → V j (a.tmps.getD s undef) w

def updL (L : Nat → Bool) (i : Nat) : Nat → Bool := fun j => if j = i then true else L j

/-- The operations' places are apart, and each waits only for earlier ones. -/
def dstsApart (ops : Array Oper) : Bool := (List.range ops.size).all fun i => (List.range ops.size).all fun j => i == j || match (ops[i]?).bind (·.dst), (ops[j]?).bind (·.dst) with
  | some s, some t => s != t
  | _, _ => true
def edgesDown (ops : Array Oper) : Bool := (List.range ops.size).all fun i => match ops[i]? with
  | some o => o.after.all fun e => !Region.binds .any e || e.on < i
  | none => true
def dstsIn (ops : Array Oper) (n : Nat) : Bool := ops.all fun o => match o.dst with
  | some s => s < n
  | none => true

theorem dstsApart_spec (h : dstsApart ops = true) {i j : Nat} {oi oj : Oper} {s : Tmp} (hi : ops[i]? = some oi) (hj : ops[j]? = some oj) (hij : i ≠ j) (hs : oi.dst = some s) : oj.dst ≠ some s := by
  intro ht
  have h1 := List.all_eq_true.1 h i (List.mem_range.2 (Array.getElem?_eq_some_iff.1 hi).1)
  have h2 := List.all_eq_true.1 h1 j (List.mem_range.2 (Array.getElem?_eq_some_iff.1 hj).1)
  simp [hij, hi, hj, hs, ht] at h2
theorem edgesDown_spec (h : edgesDown ops = true) {i : Nat} {o : Oper} (hi : ops[i]? = some o) : ∀ e ∈ o.after, Region.binds .any e = true → e.on < i := by
  have h1 := List.all_eq_true.1 h i (List.mem_range.2 (Array.getElem?_eq_some_iff.1 hi).1)
  simp only [hi] at h1
  intro e he hb
  have := Array.all_eq_true_iff_forall_mem.1 h1 e he
  simpa [hb] using this
theorem dstsIn_spec {n : Nat} (h : dstsIn ops n = true) {i : Nat} {o : Oper} {s : Tmp} (hi : ops[i]? = some o) (hs : o.dst = some s) : s < n := by
  have := Array.all_eq_true_iff_forall_mem.1 h o (Array.mem_of_getElem? hi)
  simpa [hs] using this

theorem RJ.put {a0 : Act} {V : Nat → Value → World → Prop} {S : (Nat → Bool) → World → Prop} {L : Nat → Bool} {a : Act} {w w' : World} (hap : dstsApart ops = true) (hin : dstsIn ops a0.tmps.size = true) {i : Nat} {o : Oper} (ho : ops[i]? = some o) (h : RJ ops a0 V S L a w) {v : Value}
    (hv : o.dst ≠ none → V i v w') (hS : S (updL L i) w') (hV : ∀ j u, L j = true → V j u w → V j u w') : RJ ops a0 V S (updL L i) (a.put o.dst v) w' := by
  have hnew : ∀ s, o.dst = some s → (a.put o.dst v).tmps.getD s undef = v := fun s hs => by
    have hlt : s < a.tmps.size := by rw [h.size]; exact dstsIn_spec hin ho hs
    simp only [hs, Act.put]
    simp [hlt]
  have hold : ∀ s, o.dst ≠ some s → (a.put o.dst v).tmps[s]? = a.tmps[s]? := fun s hs => by
    cases hd : o.dst with
    | none => rfl
    | some t =>
      have : t ≠ s := fun e => hs (by rw [hd, e])
      simp only [Act.put]
      rw [Array.getElem?_setIfInBounds_ne this]
  refine ⟨hS, ?_, ?_, fun s hs => ?_, fun j oj s hj hL hs => ?_⟩
  · cases hd : o.dst <;> exact h.defers
  · cases hd : o.dst with
    | none => exact h.size
    | some t => simp only [Act.put]; rw [Array.size_setIfInBounds]; exact h.size
  · have h1 : o.dst ≠ some s := hs i o ho (by simp [updL])
    rw [hold s h1]
    exact h.other s fun j oj hj hL => hs j oj hj (by simp [updL, hL])
  · by_cases hji : j = i
    · subst hji
      rw [ho] at hj
      cases hj
      rw [hnew s hs]
      exact hv (by rw [hs]; simp)
    · have hL' : L j = true := by simpa [updL, hji] using hL
      have h1 : o.dst ≠ some s := dstsApart_spec hap hj ho hji hs
      have h2 := hold s h1
      have h3 : (a.put o.dst v).tmps.getD s undef = a.tmps.getD s undef := by simp only [Array.getD_eq_getD_getElem?, h2]
      rw [h3]
      exact hV j _ hL' (h.done j oj s hj hL' hs)

/-- how many are still to come -/
def leftL (ops : Array Oper) (listed : Array Bool) : Nat := ((List.range ops.size).filter fun j => !listed.getD j true).length

theorem filter_drop_lt {α : Type} (p q : α → Bool) (x : α) : ∀ (l : List α), x ∈ l → p x = true → q x = false → (∀ y, q y = true → p y = true) → (l.filter q).length < (l.filter p).length := by
  intro l
  induction l with
  | nil => intro h; cases h
  | cons y l ih =>
    intro hx hp hq hs
    have hle : ∀ (l : List α), (l.filter q).length ≤ (l.filter p).length := by
      intro l
      induction l with
      | nil => exact Nat.le_refl _
      | cons z l ih =>
        simp only [List.filter_cons]
        cases hz : q z with
        | true => simp only [hs z hz, if_true, List.length_cons]; omega
        | false =>
          simp only [Bool.false_eq_true, if_false]
          split
          · simp only [List.length_cons]; omega
          · exact ih
    rcases List.mem_cons.1 hx with rfl | hx
    · simp only [List.filter_cons, hp, hq, if_true, Bool.false_eq_true, if_false, List.length_cons]
      have := hle l
      omega
    · have := ih hx hp hq hs
      simp only [List.filter_cons]
      cases hz : q y with
      | true => simp only [hs y hz, if_true, List.length_cons]; omega
      | false =>
        simp only [Bool.false_eq_true, if_false]
        split
        · simp only [List.length_cons]; omega
        · exact this

theorem getD_listed {listed : Array Bool} (hs : listed.size = ops.size) {j : Nat} (hj : j < ops.size) (d : Bool) : listed.getD j d = listed.getD j true := by
  simp only [Array.getD_eq_getD_getElem?]
  rw [Array.getElem?_eq_getElem (by omega)]
  rfl
end
end Go.Proofs.YtmmjlngbiilagaaGreatDoor

/-
  THE SORT's PHASE: the collector alone (the others only leave): what a step may do there. cmp.Or over three numbers in a block of its own.
-/
namespace Go.Proofs.YtmmjlngbiilagaaGreatDoor
open Go Go.Conc Go.RowKit

/-- A step of the phase: from B on the blocks are its own, and those of O; nothing else is turned; what is listed touches its own, or reads Q. -/
structure DSt (O Q : Nat → Prop) (B : Nat) (w w' : World) (es : Array Event) : Prop where
  tape : w'.tape = w.tape
  os : w'.os = w.os
  output : w'.output = w.output
  size : w.heap.size ≤ w'.heap.size
  block : ∀ b, b < w.heap.size → b < B → ¬ O b → w'.heap[b]? = w.heap[b]?
  ev : ∀ e ∈ es, EvP (fun b => O b ∨ (B ≤ b ∧ b < w'.heap.size)) Q e
  kd : ∀ N C, (∀ b, O b → N b) → (∀ b, B ≤ b → N b) → Kd N C w → Kd N C w'

theorem termsSt (O Q : Nat → Prop) (B : Nat) : Terms AtRel (DSt O Q B) := ⟨fun _ _ _ ⟨_, h⟩ ⟨d, k⟩ => ⟨d, by subst h; subst k; rfl⟩, fun _ => ⟨rfl, rfl, rfl, Nat.le_refl _, fun _ _ _ _ => rfl, by simp, fun _ _ _ _ h => h⟩⟩
theorem drawSt (O Q : Nat → Prop) (B : Nat) : LetsDraw (DSt O Q B) := fun _ => ⟨rfl, rfl, rfl, Nat.le_refl _, fun _ _ _ _ => rfl, by simp, fun _ _ _ _ h => h.heap rfl⟩

section
variable {O Q : Nat → Prop} {B : Nat} {w w₁ : World}
theorem dst_read {g : Nat} (hg : O g ∨ (B ≤ g ∧ g < w.heap.size) ∨ Q g) : ∀ es : Array Event, (∀ e ∈ es, RdB g e) → DSt O Q B w w es := fun es h =>
  ⟨rfl, rfl, rfl, Nat.le_refl _, fun _ _ _ _ => rfl, fun e he => by
    obtain ⟨ad, rfl, rfl⟩ := h e he
    exact ⟨rfl, hg.elim (fun x => .inl (.inl x)) fun x => x.elim (fun y => .inl (.inr y)) fun y => .inr ⟨y, rfl⟩⟩, fun _ _ _ _ h => h⟩
theorem dst_new (ob : Obj) (hob : ∀ N, KindOk N ob := by intro N; trivial) : ∀ es : Array Event, (∀ e ∈ es, NoE e) → DSt O Q B w (w.alloc ob) es := fun es h =>
  ⟨rfl, rfl, rfl, by simp, fun b hb _ _ => heap_alloc_old w ob b hb, fun e he => (h e he).elim, fun N _ _ _ h => h.alloc (hob N)⟩
theorem atRel_heap (h : AtRel w w₁) : w₁.heap = w.heap := by obtain ⟨d, rfl⟩ := h; rfl
end

/-- The world of the beginning, or one more drawn. -/
abbrev Drawn (w w' : World) : Prop := ∃ d, w' = { w with drawn := d }
theorem Drawn.refl (w : World) : Drawn w w := ⟨w.drawn, rfl⟩
theorem Drawn.rel {w w' w₁ : World} (h : Drawn w w') (r : AtRel w' w₁) : Drawn w w₁ := by
  obtain ⟨d, rfl⟩ := h
  obtain ⟨e, rfl⟩ := r
  exact ⟨e, rfl⟩
end Go.Proofs.YtmmjlngbiilagaaGreatDoor
