/-
  A FAN-IN: the starter closes the senders' channel; it receives what the collector hands over.
-/
import Derived.Test.YtmmjlngbiilagaaGreatDoorT04
import Derived.Conc.CrowdRun

namespace Go.Proofs.YtmmjlngbiilagaaGreatDoor
open Go Go.Conc
open Go.ConcR (KK wgBlock WgAt stA smA rd wr mk DC0 g_of_ofEvents ofEvent_mk)
open Go.ConcN (WgLive AtD4 WD CTag upd upd_same upd_ne sumTo sumTo_upd sumTo_upd_out sumTo_congr le_sumTo get_map_set get_map_set_same norel_of RelBy RelBy.appOther RelBy.appNot RelBy.new Deaf_still Deaf_absent Vc cnt Vc_upd Vc_le OpenSt others_uncounted isW3 pend deafBehind_idle allQuit_of)

section
variable {X : Cx} {V : Vx} {gs gs' : Array Goroutine} {w w' : World} {sl : Option (Nat × Nat)} {t u : Trace} {st sm st' sm' : Int}

/-- A channel's block turns: whoever does not count on it bears that. -/
theorem rl_aside {c : Nat} (hB : Bg X noH V gs w t) (hA : Aside c w w') (hc : V.cl c = .sh) (hcW : c ≠ X.Wg) {x : Nat} {S : Nat → Prop} (hS : ∀ b, S b → (V.cl b = .own x ∨ ∃ m, V.cl b = .ro m)) : Rl X.ty X.Wg S w w' :=
  ⟨hA.tape, hA.os, hA.output, by rw [hA.size]; exact Nat.le_refl _, fun b hb => hA.block b (fun e => by
    have h := hS b hb
    rw [e, hc] at h
    rcases h with h | ⟨m, h⟩ <;> cases h), fun ⟨s1, s2, h⟩ => ⟨s1, s2, h.of_block (hA.block _ (Ne.symm hcW))⟩⟩

/-- THE SENDERS' CHANNEL IS CLOSED. -/
theorem closeM (hB : Bg X noH V gs w t) (hwg : WgAt X.ty X.Wg w st sm) (hm : ConcN.Mode V.j V.D (toC V.tag) st sm) (hq : isPost V.tag → AcqA X V.j t) (hl : Lk X V)
    {g : Goroutine} (hg : gs[0]? = some g) (htag : V.tag = .cl) (hj : V.j = X.N) (hd : V.d0 = 0)
    (h : AtCl X.P X.ty X.Wg X.Cm V.Cw V.S X.NextM g w) : Nxt X V gs w sl t 0 := by
  obtain ⟨_, hmw, hcl⟩ := h
  obtain ⟨f1, f2, f3⟩ := hB.fl id
  have hc : V.hc = true := f1.2 (by rw [htag]; trivial)
  have hw : V.hw = true := hB.hwC hc
  have hsh : V.shut = false := by rw [f3, htag]; rfl
  have hn := (hB.nC hc).1
  obtain ⟨s, r, hch⟩ := hB.chm
  rw [hsh] at hch
  obtain ⟨g', hgo, m, hk⟩ := hcl s r false hch
  have hrun' : g'.status = .running := Goes.running (fun _ _ x => x.1) _ (Rl.refl _) hk
  have hall : ∀ i, i < V.j → (V.D i).stage = 1 := by
    rw [htag] at hm
    exact (hm.fin_inv trivial).1
  have hc4 : V.cst = 4 := by
    rcases hl.c4 with h | h | h
    · exact h
    · rw [hl.sh (by omega)] at hsh; cases hsh
    · rw [hl.sh (by omega)] at hsh; cases hsh
  have hA : Aside X.Cm w (w.shut X.Cm s r false) := Aside.put X.Cm w _
  have hch' : (w.shut X.Cm s r false).heap[X.Cm]? = some (.chan 0 #[] true s r false) := heap_put hch
  generalize hw' : w.shut X.Cm s r false = w' at hgo hk hA hch'
  have hrunT := runT_crowd_go (P := X.P) (sl := sl) (i := 0) hg (show stepG X.P (0 == 0) g w = _ from hgo)
  have hCml := heap_lt hch
  generalize hu : MemOp.ofEvents 0 g.frame.fn g.frame.place #[⟨.obj X.Cm, false, true⟩, ⟨.obj X.Cm, true, true⟩] = u at hrunT
  have hug : ∀ op ∈ u, op.g = 0 := by subst hu; exact g_of_ofEvents
  have hue : ∀ op ∈ u, op.act = .access ⟨.obj X.Cm, false, true⟩ ∨ op.act = .close X.Cm ∨ op.act = .access ⟨.obj X.Cm, true, true⟩ := by
    subst hu
    intro op hop
    obtain ⟨e, he, rfl⟩ := mem_ofE hop
    simp at he
    rcases he with rfl | rfl
    · exact .inl rfl
    · first | exact .inr (.inl rfl) | exact .inr (.inr rfl)
  have hund : ∀ op ∈ u, op.act ≠ .mark .disable ∧ op.act ≠ .mark .enable := fun op hop => by
    rcases hue op hop with h | h | h <;> rw [h] <;> exact ⟨by simp, by simp⟩
  have hdf : ∀ k, Deaf (t ++ u) k = Deaf t k := fun k => Deaf_still t k u hund
  have hti : TI X.Shun V.cl X.Wg X.L V.n w.heap.size (t ++ u) := by
    refine hB.ti.app (.inl rfl) (by omega) hug (fun op hop x hx => ?_) (fun op hop => ?_)
    · rcases hue op hop with h | h | h
      · rw [h] at hx
        simp only [MemAct.touch?, Option.some.injEq] at hx
        subst hx
        exact ⟨X.Cm, rfl, fun h => absurd h (by omega), .inr (.inr ⟨hB.clM, by simp, by simp⟩)⟩
      · rw [h] at hx; cases hx
      · rw [h] at hx
        simp only [MemAct.touch?, Option.some.injEq] at hx
        subst hx
        exact ⟨X.Cm, rfl, fun h => absurd h (by omega), .inr (.inr ⟨hB.clM, by simp, by simp⟩)⟩
    · rcases hue op hop with h | h | h <;> rw [h] <;> exact hCml
  have hnor : NoRelease (stA X.Wg) (t ++ u) := hB.nor.app fun op hop => by rcases hue op hop with h | h | h <;> rw [h] <;> simp
  have hwok : ∀ k, k ≠ 0 → ((gs.map (woken X.P g g' w')).setIfInBounds 0 g')[k]? = (gs[k]?).map (woken X.P g g' w') := fun k hk => get_map_set _ _ _ _ (Ne.symm hk)
  have hRlC : ∀ {x : Nat} {S : Nat → Prop}, (∀ b, S b → (V.cl b = .own x ∨ ∃ m, V.cl b = .ro m)) → Rl X.ty X.Wg S w w' := fun hS => rl_aside hB hA hB.clM hB.neM hS
  -- the collector
  have hcol : ∃ cfu', cfu' ≠ 0 ∧ ∃ x, ((gs.map (woken X.P g g' w')).setIfInBounds 0 g')[X.L + 1 + X.N]? = some x ∧ CSit X.P X.ty X.Wg X.Cm V.S V.Cw X.Poss X.Full X.Res V.l (X.tot - V.l.length) 4 cfu' V.OC x w' := by
    obtain ⟨x, hx, hs⟩ := hB.col hc id
    have hr : RO X.ty X.Wg V.S V.OC w w' := hRlC (x := X.L + 1 + X.N) fun b hb => hb.elim (fun ho => .inl (hB.oC hc id b ho).1) fun hq => .inr ⟨_, (hB.clS hc b hq).1.choose_spec.2⟩
    unfold Cx.cs at hs
    rw [hc4] at hs
    generalize hcf : V.cfu = f at hs
    generalize htl : X.tot - V.l.length = r₁ at hs
    cases hs with
    | rcv h =>
      refine ⟨_, Nat.succ_ne_zero _, x, ?_, .rcv (h.rely roTr hr)⟩
      rw [hwok _ (by omega), hx, Option.map_some, woken_run (h.running (fun _ _ _ x => x.1) (roRf _ _))]
    | @prk z _ g₀ _ h =>
      refine ⟨0 + 1, by omega, { parked (core g₀) #[rcase X.Cm z] (.recv true) with status := .running }, ?_, .rcv (GoesO.stop fun w₁ h₁ => ?_)⟩
      · rw [hwok _ (by omega), hx, Option.map_some]
        congr 1
        unfold Go.Conc.woken
        rw [if_pos (by simp [hmw, hrun'])]
        exact again_recv_closed hch'
      · obtain ⟨_, z', hst, hv, hcc⟩ := h w₁ (hr.trans h₁)
        refine ⟨rfl, z', ?_, hv, hcc⟩
        have e : stepG X.P false { parked (core g₀) #[rcase X.Cm z] (.recv true) with status := .running } w₁ = stepG X.P false g₀ w₁ := stepG_same rfl rfl rfl w₁
        rw [e]
        exact hst
  obtain ⟨cfu', hcf', x, hx, hcs⟩ := hcol
  have hB1 : Bg X (· = 0) { V with shut := true, cst := 4, cfu := cfu' } ((gs.map (woken X.P g g' w')).setIfInBounds 0 g') w' (t ++ u) := by
    refine ⟨by simp [hB.sz], hB.nC, hB.nJ, hB.hwC, fun h => absurd rfl h, fun h => absurd rfl h, fun h => absurd rfl h, fun h => absurd rfl h,
      fun i y _ h0 hL hy => ?_, fun i hi _ => ?_, fun i hi _ => ?_, fun i hi _ h6 => ?_, fun i hi _ b hb => ?_, fun _ _ => ⟨x, hx, hcs⟩, fun _ _ => ?_, fun _ _ b hb => ?_, by rw [hA.size]; exact hti, hnor,
      hB.clW, hB.clM, hB.neM, fun b hb => ?_, fun _ b hb => ?_, ?_, ⟨s, r, hch'⟩, fun h => ?_, ⟨hB.kd.kd.one hA.block (kd_chan ⟨_, _, hch'⟩), hB.kd.ow, hB.kd.nb, hB.kd.wB, fun b hb => by
        obtain ⟨h1, h2, h3⟩ := hB.kd.dead b hb
        exact ⟨h1, by rw [hA.size]; exact h2, (hA.block b (fun e => by rw [e, hB.clM] at h1; cases h1)).trans h3⟩⟩⟩
    · rw [hwok i (by omega)] at hy
      obtain ⟨z, hz, rfl⟩ := Option.map_eq_some_iff.1 hy
      have hq := hB.old i z id h0 hL hz
      rw [woken_quitsD hq, hdf i]
      exact hq
    · obtain ⟨y, hy, hs⟩ := hB.snd i hi id
      have hs' := SSit.rely hs (hRlC (x := X.L + 1 + i) fun b hb => hb.elim (fun ho => .inl (hB.oS i hi id b ho).1) fun hq => .inr ⟨_, (hB.clQ b hq).1.choose_spec.2⟩)
      refine ⟨y, ?_, hs'⟩
      rw [hwok _ (by omega), hy, Option.map_some, hs.woken g g' w' (s' := 0) (r' := 0) (tm := false) (fun h7 => by have := hall i hi; omega)]
    · rw [hdf]; exact hB.dS i hi id
    · obtain ⟨r, hr⟩ := hB.rel i hi id h6
      exact ⟨r, hr.appOther hug (by omega)⟩
    · obtain ⟨h1, h2⟩ := hB.oS i hi id b hb
      exact ⟨h1, by rw [hA.size]; exact h2⟩
    · rw [hdf]; exact hB.dC hc id
    · obtain ⟨h1, h2⟩ := hB.oC hc id b hb
      exact ⟨h1, by rw [hA.size]; exact h2⟩
    · obtain ⟨h1, h2⟩ := hB.clQ b hb
      exact ⟨h1, by rw [hA.size]; exact h2⟩
    · obtain ⟨h1, h2⟩ := hB.clS hc b hb
      exact ⟨h1, by rw [hA.size]; exact h2⟩
    · exact ⟨_, _, hwg.of_block (hA.block _ (Ne.symm hB.neM))⟩
    · obtain ⟨h1, h2, h3, s1, h4⟩ := hB.chw hw
      exact ⟨h1, h2, h3, s1, (hA.block _ h3).trans h4⟩
  have hF := Bg.fillM (V := { V with shut := true, cst := 4, cfu := cfu' }) (H' := noH) hB1 (fun k _ => Classical.em _) (get_map_set_same _ _ _ (lt_of_get hg)) (tag' := .rw) (f' := m + 1) (d' := 0) (O' := noO) (by simp only [hj]; exact .rw hk)
    ⟨by simp [hc, hasC], by simp [hw, hasW], rfl⟩ ((hdf 0).trans ((hB.dM id).trans hd)) (fun _ h => h.elim)
  rw [htag] at hm
  refine ⟨_, _, _, hrunT, ?_, _, w', sl, _, _, _, rfl, hF, hwg.of_block (hA.block _ (Ne.symm hB.neM)), hm, fun _ => (hq (by rw [htag]; trivial)).app fun a r _ hr => hr.appOther hug (by omega), ?_, rfl⟩
  · simp only [meas, wgt, fsum, osum, htag, phi, hc4]
    refine Prod.Lex.left _ _ ?_
    omega
  · exact ⟨hl.mrg, hl.cnt, hl.un, hl.jN, fun h => absurd (hc.symm.trans h) (by decide), .inl rfl, fun _ => rfl, fun _ _ h => absurd h hcf', fun h => (by cases h), hl.rn, fun _ _ _ => hcf'⟩

/-- THE RECEIVE OF WHAT THE COLLECTOR HANDS OVER. -/
theorem recvM (hRes : ResOk X) (hPut : ResPut X) (hFull : FullOk X) (hB : Bg X noH V gs w t) (hwg : WgAt X.ty X.Wg w st sm) (hm : ConcN.Mode V.j V.D (toC V.tag) st sm) (hq : isPost V.tag → AcqA X V.j t) (hl : Lk X V)
    {g : Goroutine} (hg : gs[0]? = some g) (htag : V.tag = .rw) (hj : V.j = X.N) (hd : V.d0 = 0) (hO : V.O = noO)
    (h : ∀ w₁, Rl X.ty X.Wg V.S w w₁ → AtRw X.P X.ty X.Wg V.Cw V.S X.NextM g w₁) : Nxt X V gs w sl t 0 ∨ NEnd X gs w sl t 0 := by
  obtain ⟨_, z, hcomm, hnx⟩ := h w (Rl.refl w)
  obtain ⟨f1, f2, f3⟩ := hB.fl id
  have hc : V.hc = true := f1.2 (by rw [htag]; trivial)
  have hw : V.hw = true := hB.hwC hc
  have hsh : V.shut = true := by rw [f3, htag]; rfl
  have hn := (hB.nC hc).1
  obtain ⟨hclw, hw1, hw2, s, hch⟩ := hB.chw hw
  have hlt := lt_of_get hg
  by_cases hcol : V.cst = 2 ∧ V.cfu = 0
  · right
    obtain ⟨y, hy, hcs⟩ := hB.col hc id
    unfold Cx.cs at hcs
    obtain ⟨g₀, v, z', q, rfl, hres, hqt⟩ : ∃ (g₀ : Goroutine) (v z' : Value) (q : Nat), y = parked (core g₀) #[scase V.Cw v z'] .send ∧ X.Res V.l v w ∧ QuitsD X.P q 0 (Conc.served (core g₀) undef) := by
      rw [hcol.1, hcol.2] at hcs
      generalize X.tot - V.l.length = r₁ at hcs
      cases hcs with
      | pkw h1 h2 => exact ⟨_, _, _, _, rfl, h1, h2⟩
    have hpart : partners (gs.setIfInBounds 0 ph) V.Cw true = [(X.L + 1 + X.N, 0)] :=
      onePart (by omega) hy (by rw [offersAt_parked_send, if_pos rfl]) (fun a x ha hac hx => (hB.off hx).sendW hB hw (fun h => hac h.2.1))
    have hrunT := crowd_recv_meets (P := X.P) (sl := sl) hg (show stepG X.P (0 == 0) g w = _ from hcomm) hch (by omega) hy hpart
    rw [finishComm_send, finishComm_recv] at hrunT
    have hA : Aside V.Cw w (w.setChan V.Cw 0 #[] false (s + 1) (s + 1) false) := Aside.put V.Cw w _
    have hRl : Rl X.ty X.Wg V.S w (w.setChan V.Cw 0 #[] false (s + 1) (s + 1) false) := rl_aside hB hA hclw hw1 (x := 0) fun b hb => .inr ⟨_, (hB.clS hc b hb).1.choose_spec.2⟩
    refine ⟨_, _, hrunT, ?_⟩
    exact finish hPut hB hm hq (by rw [htag]; trivial) hc hch hres (hFull _ _ hl.mrg (allGot hB hm hl hc hsh)) (hnx v _ hRl) hqt hd
      (fun k h1 h2 => by rw [Array.getElem?_setIfInBounds_ne (Ne.symm h1), Array.getElem?_setIfInBounds_ne (Ne.symm h2)]) (by simp)
      (by rw [Array.getElem?_setIfInBounds_self_of_lt (by simpa using hlt)]; rfl)
      (by rw [Array.getElem?_setIfInBounds_ne (by omega), Array.getElem?_setIfInBounds_self_of_lt (lt_of_get hy)])
  · left
    have hpart : partners (gs.setIfInBounds 0 ph) V.Cw true = [] :=
      noParts fun a x ha hx => (hB.off hx).sendW hB hw (fun h => hcol ⟨h.2.2.1, h.2.2.2⟩)
    have hrunT := crowd_waits (P := X.P) (sl := sl) hg (show stepG X.P (0 == 0) g w = _ from hcomm) (fun cc hcc => by
      simp at hcc
      subst hcc
      exact ways_recv_none hch hpart)
    have hB1 : Bg X (· = 0) V (gs.setIfInBounds 0 (parked (core g) #[rcase V.Cw z] (.recv false))) w (t ++ MemOp.ofEvents 0 g.frame.fn g.frame.place #[]) :=
      (hB.less (fun _ h => h.elim)).com hRes (.refl X.Cm w) hB.clM hB.neM (fun k hk => by rw [Array.getElem?_setIfInBounds_ne (Ne.symm hk)]) (by simp) plain_none hB.chm (fun hw => (hB.chw hw).2.2.2) (fun _ _ _ => atRel_refl w) (kd_chan hB.chm)
    have hcst : V.cst ≠ 2 := fun e => by
      obtain ⟨y, hy, hcs⟩ := hB.col hc id
      unfold Cx.cs at hcs
      have hf : V.cfu ≠ 0 := fun h => hcol ⟨e, h⟩
      rw [e] at hcs
      generalize X.tot - V.l.length = r₁ at hcs
      generalize V.cfu = ff at hcs hf
      cases hcs with
      | pkw _ _ => exact hf rfl
    have hF := Bg.fillM (V := V) (H' := noH) hB1 (fun k _ => Classical.em _) (by rw [Array.getElem?_setIfInBounds_self_of_lt hlt]) (tag' := .prw) (f' := 0) (d' := 0) (O' := noO) (by rw [hj]; exact .prw hnx)
      ⟨by simp [hc, hasC], by simp [hw, hasW], hsh⟩ ((Deaf_still t _ _ (plain_none (X := X) (n := 0) (B := 0) (H := noH)).nd).trans ((hB.dM id).trans hd)) (fun _ h => h.elim)
    obtain ⟨_, _, hne⟩ := hB.main id
    have hf0 : 0 < V.f0 := by
      unfold Cx.ms at hne
      rw [htag] at hne
      generalize V.f0 = ff at hne
      generalize V.d0 = dd at hne
      generalize V.O = OO at hne
      generalize V.j = jj at hne
      cases hne with
      | rw _ => omega
    rw [htag] at hm
    refine ⟨_, _, _, hrunT, ?_, _, w, sl, _, _, _, rfl, hF, hwg, hm, fun _ => (hq (by rw [htag]; trivial)).app fun a r _ hr => hr.appOther g_of_ofEvents (by omega), ?_, rfl⟩
    · simp only [meas, wgt, fsum, osum, htag, phi]
      refine Prod.Lex.right _ ?_
      omega
    · exact ⟨hl.mrg, hl.cnt, hl.un, hl.jN, hl.nc, hl.c4, hl.sh, hl.ex1, fun _ => hcst, hl.rn, hl.c40⟩
end
end Go.Proofs.YtmmjlngbiilagaaGreatDoor

/-
  A FAN-IN: whatever step of the starter's keeps the invariant and lowers the measure, or ends the fan-in.
-/
namespace Go.Proofs.YtmmjlngbiilagaaGreatDoor
open Go Go.Conc
open Go.ConcR (KK wgBlock WgAt stA smA rd wr mk DC0 g_of_ofEvents ofEvent_mk)
open Go.ConcN (WgLive AtD4 WD CTag upd upd_same upd_ne sumTo sumTo_upd sumTo_upd_out sumTo_congr le_sumTo get_map_set get_map_set_same norel_of RelBy RelBy.appOther RelBy.appNot RelBy.new Deaf_still Deaf_absent Vc cnt Vc_upd Vc_le OpenSt others_uncounted isW3 pend deafBehind_idle allQuit_of)

section
variable {X : Cx} {V : Vx} {gs gs' : Array Goroutine} {w w' : World} {sl : Option (Nat × Nat)} {t u : Trace} {st sm st' sm' : Int}

set_option maxHeartbeats 3200000 in
/-- A STEP OF THE STARTER's. -/
theorem step0 (hRes : ResOk X) (hPut : ResPut X) (hFull : FullOk X) (hN : X.N < 2147483648) (hB : Bg X noH V gs w t) (hwg : WgAt X.ty X.Wg w st sm) (hm : ConcN.Mode V.j V.D (toC V.tag) st sm) (hq : isPost V.tag → AcqA X V.j t) (hl : Lk X V)
    {g : Goroutine} (hg : gs[0]? = some g) (hrun : g.status = .running) : Nxt X V gs w sl t 0 ∨ NEnd X gs w sl t 0 := by
  obtain ⟨g₁, hg₁, hs⟩ := hB.main id
  obtain rfl : g = g₁ := by rw [hg] at hg₁; exact Option.some.inj hg₁
  have hns0 : V.shut = isShut V.tag := (hB.fl id).2.2
  have hcIf : hasC V.tag → V.hc = true := (hB.fl id).1.2
  have hVj := Vc_le V.j V.D
  have hq' := hq
  unfold Cx.ms at hs
  generalize htag : V.tag = tag at hs
  generalize hj : V.j = j at hs
  generalize hf : V.f0 = f at hs
  generalize hd : V.d0 = d at hs
  generalize hO : V.O = O at hs
  have hm0 := hm
  rw [htag] at hm0 hns0
  cases hs with
  | @skd r m _ _ _ _ _ hr h =>
    left
    rcases h.cases with hstop | ⟨m', rfl, _, hstep⟩
    · obtain ⟨_, g', hgo, m₂, hk⟩ := hstop w (roRf _ _)
      exact bookM hRes hB hm hl hns0 hg hgo (.refl X.Wg w) hwg bwDis (tag' := .sp r 5) (f' := m₂) (d' := 1) (by rw [hO, hj]; exact .sa1 hr hk) (by rw [htag]; exact ⟨Iff.rfl, Iff.rfl, rfl⟩) (by rw [hd]; simp [deafBehind, mk]) hm0 (fun h => h.elim) (.inl (by rw [htag]; simp only [phi]; omega)) (by simp)
    · obtain ⟨g', w', es, hgo, O', hD, hg'⟩ := hstep w (roRf _ _)
      exact ownM hRes hB hwg hm hl hns0 hg hgo (by rw [hO]; exact hD) (by rw [htag, hj, hd]; exact .skd hr hg') (by omega) (by rw [htag]; simp) (by rw [htag]; exact fun h => h)
  | @sa1 r m _ _ _ _ _ hr h =>
    left
    rcases Goes.cases h with hstop | ⟨m', rfl, hstep⟩
    · obtain ⟨_, hall⟩ := hstop w (Rl.refl w)
      obtain ⟨ho, rfl, rfl, _⟩ := hm0.open_inv trivial
      have hpe : pend (toC (.sp r 5)) = 0 := rfl
      rw [hpe, Nat.add_zero] at hwg
      obtain ⟨g', hgo, h0, hne⟩ := hall (Vc V.j V.D) (by omega) hwg
      have e : (((Vc V.j V.D : Nat) : Int) + 1) * KK = ((Vc V.j V.D + pend (toC (.sp r 3)) : Nat) : Int) * KK := by
        have : pend (toC (.sp r 3)) = 1 := rfl
        rw [this]; simp
      by_cases hv : Vc V.j V.D = 0
      · obtain ⟨m₂, hk⟩ := h0 hv
        refine bookM hRes hB hm hl hns0 hg hgo (aside_setCell w (stA X.Wg) _) (hwg.setSt _) bw2 (tag' := .sp r 4) (f' := m₂) (d' := 1) (by rw [hO, hj] at *; exact .ssd hr hk) (by rw [htag]; exact ⟨Iff.rfl, Iff.rfl, rfl⟩) (by rw [hd]; simp [deafBehind, rd, wr]) ?_ (fun h => h.elim) (.inl (by rw [htag]; simp only [phi]; omega)) (by simp)
        rw [e]
        exact .opn trivial ho (by simp [toC])
      · obtain ⟨m₂, hk⟩ := hne hv
        refine bookM hRes hB hm hl hns0 hg hgo (aside_setCell w (stA X.Wg) _) (hwg.setSt _) bw2 (tag' := .sp r 3) (f' := m₂) (d' := 1) (by rw [hO, hj] at *; exact .ske hr hk) (by rw [htag]; exact ⟨Iff.rfl, Iff.rfl, rfl⟩) (by rw [hd]; simp [deafBehind, rd, wr]) ?_ (fun h => h.elim) (.inl (by rw [htag]; simp only [phi]; omega)) (by simp)
        rw [e]
        exact .opn trivial ho (by simp [toC])
    · obtain ⟨g', w', es, hgo, ⟨rfl, rfl⟩, hg'⟩ := hstep w (Rl.refl w)
      exact idleM hRes hB hwg hm hq hl hns0 hg hgo (by rw [htag, hj, hd, hO]; exact .sa1 hr hg') (by omega) (by rw [htag]; simp)
  | @ssd r m _ _ _ _ _ hr h =>
    left
    rcases Goes.cases h with hstop | ⟨m', rfl, hstep⟩
    · obtain ⟨_, g', hgo, m₂, hk⟩ := hstop w (Rl.refl w)
      exact bookM hRes hB hm hl hns0 hg hgo (.refl X.Wg w) hwg bwRd (tag' := .sp r 3) (f' := m₂) (d' := 1) (by rw [hO, hj]; exact .ske hr hk) (by rw [htag]; exact ⟨Iff.rfl, Iff.rfl, rfl⟩) (by rw [hd]; simp [deafBehind, mk]) hm0 (fun h => h.elim) (.inl (by rw [htag]; simp only [phi]; omega)) (by simp)
    · obtain ⟨g', w', es, hgo, ⟨rfl, rfl⟩, hg'⟩ := hstep w (Rl.refl w)
      exact idleM hRes hB hwg hm hq hl hns0 hg hgo (by rw [htag, hj, hd, hO]; exact .ssd hr hg') (by omega) (by rw [htag]; simp)
  | @ske r m _ _ _ _ _ hr h =>
    left
    rcases Goes.cases h with hstop | ⟨m', rfl, hstep⟩
    · obtain ⟨_, g', hgo, m₂, hk⟩ := hstop w (Rl.refl w)
      exact bookM hRes hB hm hl hns0 hg hgo (.refl X.Wg w) hwg bwEn (tag' := .sp r 2) (f' := m₂) (d' := 0) (by rw [hO, hj]; exact .sgo hr hk) (by rw [htag]; exact ⟨Iff.rfl, Iff.rfl, rfl⟩) (by rw [hd]; simp [deafBehind, mk]) hm0 (fun h => h.elim) (.inl (by rw [htag]; simp only [phi]; omega)) (by simp)
    · obtain ⟨g', w', es, hgo, ⟨rfl, rfl⟩, hg'⟩ := hstep w (Rl.refl w)
      exact idleM hRes hB hwg hm hq hl hns0 hg hgo (by rw [htag, hj, hd, hO]; exact .ske hr hg') (by omega) (by rw [htag]; simp)
  | @sgo r m _ _ _ _ _ hr h =>
    left
    rcases h.cases with hstop | ⟨m', rfl, _, hstep⟩
    · exact spawnS hB hwg hm hl hg htag hr hj hd (by rw [hO]; exact hstop w (roRf _ _))
    · obtain ⟨g', w', es, hgo, O', hD, hg'⟩ := hstep w (roRf _ _)
      exact ownM hRes hB hwg hm hl hns0 hg hgo (by rw [hO]; exact hD) (by rw [htag, hj, hd]; exact .sgo hr hg') (by omega) (by rw [htag]; simp) (by rw [htag]; exact fun h => h)
  | gmk h =>
    left
    rcases h.cases with hstop | ⟨m', rfl, _, hstep⟩
    · exact mkW hRes hB hwg hm hl hg htag hj hd (by rw [hO]; exact hstop w (roRf _ _))
    · obtain ⟨g', w', es, hgo, O', hD, hg'⟩ := hstep w (roRf _ _)
      exact ownM hRes hB hwg hm hl hns0 hg hgo (by rw [hO]; exact hD) (by rw [htag, hj, hd]; exact .gmk hg') (by omega) (by rw [htag]; simp) (by rw [htag]; exact fun h => h)
  | ggc h =>
    left
    rcases h.cases with hstop | ⟨m', rfl, _, hstep⟩
    · exact spawnC hB hwg hm hl hg htag hj hd (by rw [hO]; exact hstop w (roRf _ _))
    · obtain ⟨g', w', es, hgo, O', hD, hg'⟩ := hstep w (roRf _ _)
      exact ownM hRes hB hwg hm hl hns0 hg hgo (by rw [hO]; exact hD) (by rw [htag, hj, hd]; exact .ggc hg') (by omega) (by rw [htag]; simp) (by rw [htag]; exact fun h => h)
  | kd a h =>
    left
    rcases Goes.cases h with hstop | ⟨m', rfl, hstep⟩
    · obtain ⟨_, g', hgo, m₂, hk⟩ := hstop w (Rl.refl w)
      exact bookM hRes hB hm hl hns0 hg hgo (.refl X.Wg w) hwg bwDis (tag' := .anch) (f' := m₂) (d' := 1) (by rw [hO, hj]; exact .anch a hk) (by rw [htag]; exact ⟨Iff.rfl, Iff.rfl, rfl⟩) (by rw [hd]; simp [deafBehind, mk]) (hm0.reopen trivial trivial rfl (by simp [toC])) (fun h => h.elim) (.inl (by rw [htag]; simp only [phi]; omega)) (by simp)
    · obtain ⟨g', w', es, hgo, ⟨rfl, rfl⟩, hg'⟩ := hstep w (Rl.refl w)
      exact idleM hRes hB hwg hm hq hl hns0 hg hgo (by rw [htag, hj, hd, hO]; exact .kd a hg') (by omega) (by rw [htag]; simp)
  | anch a h =>
    left
    rcases Goes.cases h with hstop | ⟨m', rfl, hstep⟩
    · obtain ⟨m₂, hk⟩ := a.go _ _ (hstop w (Rl.refl w))
      exact w1M hRes hN hB hwg hm hq hl hg a hj hO hd (.inr htag) hk
    · obtain ⟨g', w', es, hgo, ⟨rfl, rfl⟩, hg'⟩ := hstep w (Rl.refl w)
      exact idleM hRes hB hwg hm hq hl hns0 hg hgo (by rw [htag, hj, hd, hO]; exact .anch a hg') (by omega) (by rw [htag]; simp)
  | w1 a h => exact .inl (w1M hRes hN hB hwg hm hq hl hg a hj hO hd (.inl ⟨htag, hf⟩) h)
  | @w2 vs m _ _ _ _ _ a h =>
    left
    rcases Goes.cases h with hstop | ⟨m', rfl, hstep⟩
    · obtain ⟨_, hall⟩ := hstop w (Rl.refl w)
      obtain ⟨ho, rfl, rfl, hw2⟩ := hm0.open_inv trivial
      obtain ⟨hle, h1⟩ := hw2 vs rfl
      have hpe : pend (toC (.w2 vs)) = 0 := rfl
      rw [hpe, Nat.add_zero] at hwg
      obtain ⟨hhit, hmiss⟩ := hall (Vc V.j V.D) (by omega) hwg
      by_cases e : Vc V.j V.D = vs
      · obtain ⟨g', hgo, m₂, hk⟩ := hhit e
        exact bookM hRes hB hm hl hns0 hg hgo (aside_setCell w (stA X.Wg) _) (hwg.setSt _) bw2 (tag' := .wsd) (f' := m₂) (d' := 1) (by rw [hO, hj] at *; exact .wsd hk) (by rw [htag]; exact ⟨Iff.rfl, Iff.rfl, rfl⟩) (by rw [hd]; simp [deafBehind, rd, wr]) (.reg trivial ho (by omega)) (fun h => h.elim) (.inl (by rw [htag]; simp only [phi]; omega)) (by simp)
      · obtain ⟨g', hgo, m₂, hk⟩ := hmiss e
        refine bookM hRes hB hm hl hns0 hg hgo (.refl X.Wg w) hwg bw1r (tag' := .anch) (f' := m₂) (d' := 1) (by rw [hO, hj]; exact .anch a hk) (by rw [htag]; exact ⟨Iff.rfl, Iff.rfl, rfl⟩) (by rw [hd]; simp [deafBehind, rd]) ?_ (fun h => h.elim) (.inl (by rw [htag]; simp only [phi]; omega)) (by simp)
        have := hm0.reopen (tag' := .anch) trivial trivial rfl (by simp)
        rwa [hpe, Nat.add_zero] at this
    · obtain ⟨g', w', es, hgo, ⟨rfl, rfl⟩, hg'⟩ := hstep w (Rl.refl w)
      exact idleM hRes hB hwg hm hq hl hns0 hg hgo (by rw [htag, hj, hd, hO]; exact .w2 a hg') (by omega) (by rw [htag]; simp)
  | wsd h =>
    left
    rcases Goes.cases h with hstop | ⟨m', rfl, hstep⟩
    · obtain ⟨_, g', hgo, m₂, hk⟩ := hstop w (Rl.refl w)
      exact bookM hRes hB hm hl hns0 hg hgo (.refl X.Wg w) hwg bwWr (tag' := .w3) (f' := m₂ + 1) (d' := 1) (by rw [hO, hj]; exact .w3 hk) (by rw [htag]; exact ⟨Iff.rfl, Iff.rfl, rfl⟩) (by rw [hd]; simp [deafBehind, mk]) hm0 (fun h => h.elim) (.inl (by rw [htag]; simp only [phi]; omega)) (by simp)
    · obtain ⟨g', w', es, hgo, ⟨rfl, rfl⟩, hg'⟩ := hstep w (Rl.refl w)
      exact idleM hRes hB hwg hm hq hl hns0 hg hgo (by rw [htag, hj, hd, hO]; exact .wsd hg') (by omega) (by rw [htag]; simp)
  | w3 h =>
    left
    rcases Goes.cases h with hstop | ⟨m', rfl, hstep⟩
    · obtain ⟨_, hoff, hblk, htake⟩ := hstop w (Rl.refl w)
      have hb : ∀ {s : Int}, WgAt X.ty X.Wg w s 0 → ConcN.Mode V.j V.D .blk s 0 → Nxt X V gs w sl t 0 := fun {s} hwg hmb =>
        bookM hRes hB hm hl hns0 hg (hblk ⟨_, hwg⟩) (.refl X.Wg w) hwg bwNone (tag' := .blk) (f' := 0) (d' := 1) (by rw [hO, hj]; exact .blk hstop) (by rw [htag]; exact ⟨Iff.rfl, Iff.rfl, rfl⟩) (by rw [hd]; rfl) hmb (fun h => h.elim) (.inr ⟨by rw [htag]; rfl, by omega⟩) (by simp)
      have e3 : toC .w3 = .w3 := rfl
      rw [e3] at hm0
      generalize hct : CTag.w3 = ct at hm0
      cases hm0 with
      | opn h1 _ _ => subst hct; exact h1.elim
      | reg h1 h2 h3 => exact hb hwg (.reg trivial h2 h3)
      | last L h1 h2 h3 h4 => exact hb hwg (.last L trivial h2 h3 h4)
      | sema h2 =>
        obtain ⟨g', hgo, m₂, hk⟩ := htake hwg
        exact bookM hRes hB hm hl hns0 hg hgo (aside_setCell w (smA X.Wg) _) (hwg.setSm 0) bwSem (tag' := .w4) (f' := m₂) (d' := 1) (by rw [hO, hj]; exact .w4 hk) (by rw [htag]; exact ⟨Iff.rfl, Iff.rfl, rfl⟩) (by rw [hd]; simp [deafBehind, semEvents]) (.fin trivial h2) (fun h => h.elim) (.inl (by rw [htag]; simp only [phi]; omega)) (by simp)
      | fin h1 _ => subst hct; exact h1.elim
    · obtain ⟨g', w', es, hgo, ⟨rfl, rfl⟩, hg'⟩ := hstep w (Rl.refl w)
      exact idleM hRes hB hwg hm hq hl hns0 hg hgo (by rw [htag, hj, hd, hO]; exact .w3 hg') (by omega) (by rw [htag]; simp)
  | blk h => simp at hrun
  | w4 h =>
    left
    rcases Goes.cases h with hstop | ⟨m', rfl, hstep⟩
    · obtain ⟨_, hx⟩ := hstop w (Rl.refl w)
      obtain ⟨hqq, rfl, rfl⟩ := hm0.fin_inv trivial
      obtain ⟨g', hgo, m₂, hk⟩ := hx hwg
      exact bookM hRes hB hm hl hns0 hg hgo (.refl X.Wg w) hwg bw1r (tag' := .ke) (f' := m₂) (d' := 1) (by rw [hO, hj]; exact .ke hk) (by rw [htag]; exact ⟨Iff.rfl, Iff.rfl, rfl⟩) (by rw [hd]; simp [deafBehind, rd]) (.fin trivial hqq) (fun h => h.elim) (.inl (by rw [htag]; simp only [phi]; omega)) (by simp)
    · obtain ⟨g', w', es, hgo, ⟨rfl, rfl⟩, hg'⟩ := hstep w (Rl.refl w)
      exact idleM hRes hB hwg hm hq hl hns0 hg hgo (by rw [htag, hj, hd, hO]; exact .w4 hg') (by omega) (by rw [htag]; simp)
  | ke h =>
    left
    rcases Goes.cases h with hstop | ⟨m', rfl, hstep⟩
    · obtain ⟨_, g', hgo, m₂, hk⟩ := hstop w (Rl.refl w)
      obtain ⟨hqq, rfl, rfl⟩ := hm0.fin_inv trivial
      exact bookM hRes hB hm hl hns0 hg hgo (.refl X.Wg w) hwg bwEn (tag' := .acq) (f' := m₂) (d' := 0) (by rw [hO, hj]; exact .acq hk) (by rw [htag]; exact ⟨Iff.rfl, Iff.rfl, rfl⟩) (by rw [hd]; simp [deafBehind, mk]) (.fin trivial hqq) (fun h => h.elim) (.inl (by rw [htag]; simp only [phi]; omega)) (by simp)
    · obtain ⟨g', w', es, hgo, ⟨rfl, rfl⟩, hg'⟩ := hstep w (Rl.refl w)
      exact idleM hRes hB hwg hm hq hl hns0 hg hgo (by rw [htag, hj, hd, hO]; exact .ke hg') (by omega) (by rw [htag]; simp)
  | acq h =>
    left
    rcases Goes.cases h with hstop | ⟨m', rfl, hstep⟩
    · obtain ⟨_, g', hgo, m₂, hk⟩ := hstop w (Rl.refl w)
      obtain ⟨hqq, rfl, rfl⟩ := hm0.fin_inv trivial
      refine bookM hRes hB hm hl hns0 hg hgo (.refl X.Wg w) hwg bwAcq (tag' := .cl) (f' := m₂) (d' := 0) (by rw [hO, hj]; exact .cl hk) (by rw [htag]; exact ⟨Iff.rfl, Iff.rfl, rfl⟩) (by rw [hd]; simp [deafBehind, mk]) (.fin trivial hqq) (fun _ => ?_) (.inl (by rw [htag]; simp only [phi]; omega)) (by simp)
      have e1 : MemOp.ofEvents 0 g.frame.fn g.frame.place #[mk (.acquire (stA X.Wg))] = #[{ g := 0, fn := g.frame.fn, pos := g.frame.place, act := .mark (.acquire (stA X.Wg)) }] := by rw [ofEvents_eq]; simp [ofEvent_mk]
      have hy : (t ++ #[({ g := 0, fn := g.frame.fn, pos := g.frame.place, act := .mark (.acquire (stA X.Wg)) } : MemOp)])[t.size]? = some { g := 0, fn := g.frame.fn, pos := g.frame.place, act := .mark (.acquire (stA X.Wg)) } := by simp
      refine ⟨t.size, by rw [e1, act?_of hy], by rw [e1]; simp [Trace.g?], by rw [e1]; exact ⟨0, by simp [Trace.g?], by rw [deaf_old (Nat.le_refl _)]; exact (hB.dM id).trans hd⟩, fun i hi => ?_⟩
      obtain ⟨r, hr⟩ := hB.rel i hi id (by rw [hqq i hi]; omega)
      exact ⟨r, hr.appOther g_of_ofEvents (by omega), lt_of_act? hr.act⟩
    · obtain ⟨g', w', es, hgo, ⟨rfl, rfl⟩, hg'⟩ := hstep w (Rl.refl w)
      exact idleM hRes hB hwg hm hq hl hns0 hg hgo (by rw [htag, hj, hd, hO]; exact .acq hg') (by omega) (by rw [htag]; simp)
  | cl h =>
    left
    rcases Goes.cases h with hstop | ⟨m', rfl, hstep⟩
    · exact closeM hB hwg hm hq hl hg htag hj hd (hstop w (Rl.refl w))
    · obtain ⟨g', w', es, hgo, ⟨rfl, hes⟩, hg'⟩ := hstep w (Rl.refl w)
      exact readM hRes hB hwg hm hq hl (hcIf (by rw [htag]; trivial)) hg hgo hes (by rw [htag, hj, hd]; exact .cl hg') (by omega) (by rw [htag]; simp)
  | rw h =>
    rcases Goes.cases h with hstop | ⟨m', rfl, hstep⟩
    · exact recvM hRes hPut hFull hB hwg hm hq hl hg htag hj hd hO hstop
    · obtain ⟨g', w', es, hgo, ⟨rfl, hes⟩, hg'⟩ := hstep w (Rl.refl w)
      exact .inl (readM hRes hB hwg hm hq hl (hcIf (by rw [htag]; trivial)) hg hgo hes (by rw [htag, hj, hd]; exact .rw hg') (by omega) (by rw [htag]; simp))
  | prw h => simp [parked] at hrun
end
end Go.Proofs.YtmmjlngbiilagaaGreatDoor

/-
  A FAN-IN: somebody can always move; so, on whatever tape, the fan-in ends.
-/
namespace Go.Proofs.YtmmjlngbiilagaaGreatDoor
open Go Go.Conc
open Go.ConcR (KK wgBlock WgAt stA smA rd wr mk DC0 g_of_ofEvents ofEvent_mk)
open Go.ConcN (WgLive AtD4 WD CTag upd upd_same upd_ne sumTo sumTo_upd sumTo_upd_out sumTo_congr le_sumTo get_map_set get_map_set_same norel_of RelBy RelBy.appOther RelBy.appNot RelBy.new Deaf_still Deaf_absent Vc cnt Vc_upd Vc_le OpenSt others_uncounted isW3 pend deafBehind_idle allQuit_of exists_counted)

section
variable {X : Cx} {V : Vx} {gs gs' : Array Goroutine} {w w' : World} {sl : Option (Nat × Nat)} {t u : Trace} {st sm st' sm' : Int}

/-- While the starter is blocked at the semaphore a sender that has not left runs, or the collector does. -/
theorem blkRuns (hB : Bg X noH V gs w t) (hl : Lk X V) (htag : V.tag = .blk) {i : Nat} (hi : i < V.j) (h1 : (V.D i).stage ≠ 1) : ∃ (k : Nat) (g : Goroutine), gs[k]? = some g ∧ g.status = .running := by
  obtain ⟨x, hx, hs⟩ := hB.snd i hi id
  have hsh : V.shut = false := by rw [(hB.fl id).2.2, htag]; rfl
  have hc : V.hc = true := (hB.fl id).1.2 (by rw [htag]; trivial)
  rcases SSit.status hs with h | ⟨_, h⟩ | ⟨hf, _, hr, _⟩
  · exact ⟨_, x, hx, h⟩
  · exact absurd h h1
  · obtain ⟨y, hy, hcs⟩ := hB.col hc id
    rcases CSit.status hcs with h | ⟨_, h⟩ | ⟨hcf, h4, _⟩ | ⟨_, h2, _⟩
    · exact ⟨_, y, hy, h⟩
    · rcases hl.c4 with h' | h' | h' <;> omega
    · exact absurd hf (hl.ex1 hc h4 hcf i hi hr)
    · rw [hl.sh (by omega)] at hsh; cases hsh

/-- SOMEBODY RUNS. -/
theorem someRuns (hB : Bg X noH V gs w t) (hm : ConcN.Mode V.j V.D (toC V.tag) st sm) (hl : Lk X V) : ∃ (k : Nat) (g : Goroutine), gs[k]? = some g ∧ g.status = .running := by
  obtain ⟨a, ha, hs⟩ := hB.main id
  rcases MSit.status hs with ⟨h, _⟩ | ⟨_, _, htag⟩ | ⟨_, htag, _⟩
  · exact ⟨0, a, ha, h⟩
  · have e : toC V.tag = .blk := by rw [htag]; rfl
    rw [e] at hm
    generalize hct : CTag.blk = ct at hm
    cases hm with
    | opn h1 _ _ => subst hct; exact h1.elim
    | reg _ _ h3 =>
      obtain ⟨i, hi, h5⟩ := exists_counted h3
      exact blkRuns hB hl htag hi (by omega)
    | last L _ h2 h3 _ => exact blkRuns hB hl htag h2 (by omega)
    | sema _ => cases hct
    | fin h1 _ => subst hct; exact h1.elim
  · have hsh : V.shut = true := by rw [(hB.fl id).2.2, htag]; rfl
    have hc : V.hc = true := (hB.fl id).1.2 (by rw [htag]; trivial)
    obtain ⟨y, hy, hcs⟩ := hB.col hc id
    rcases CSit.status hcs with h | ⟨_, h⟩ | ⟨hcf, h4, _⟩ | ⟨_, h2, _⟩
    · exact ⟨_, y, hy, h⟩
    · rcases hl.c4 with h' | h' | h' <;> omega
    · exact absurd hcf (hl.c40 hsh hc h4)
    · exact absurd h2 (hl.ex2 htag)

theorem allAwake (hB : Bg X noH V gs w t) : ∀ g ∈ gs, awake g := by
  intro g hg
  obtain ⟨k, hk⟩ := Array.mem_iff_getElem?.1 hg
  have hlt := lt_of_get hk
  rw [hB.sz] at hlt
  have hsnd : ∀ i, i < V.j → k = X.L + 1 + i → awake g := fun i hi e => by
    obtain ⟨x, hx, hs⟩ := hB.snd i hi id
    rw [← e, hk] at hx; cases hx
    rcases SSit.status hs with h | ⟨h, _⟩ | ⟨_, _, _, _, _, _, rfl⟩
    · exact awake_of (.inl h)
    · exact awake_of (.inr (.inr h))
    · exact awake_of (.inr (.inl rfl))
  rcases Nat.eq_zero_or_pos k with rfl | h0
  · obtain ⟨a, ha, hs⟩ := hB.main id
    rw [hk] at ha; cases ha
    rcases MSit.status hs with ⟨h, _⟩ | ⟨h, _⟩ | ⟨_, _, _, _, rfl⟩
    · exact awake_of (.inl h)
    · exact awake_of (.inr (.inl h))
    · exact awake_of (.inr (.inl rfl))
  rcases Nat.lt_or_ge X.L k with hL | hL
  · cases hc : V.hc with
    | false =>
      have := hB.nJ hc
      exact hsnd (k - (X.L + 1)) (by omega) (by omega)
    | true =>
      obtain ⟨h1, h2⟩ := hB.nC hc
      by_cases e : k = X.L + 1 + X.N
      · obtain ⟨x, hx, hs⟩ := hB.col hc id
        rw [← e, hk] at hx; cases hx
        rcases CSit.status hs with h | ⟨h, _⟩ | ⟨_, _, _, _, rfl⟩ | ⟨_, _, _, _, _, rfl⟩
        · exact awake_of (.inl h)
        · exact awake_of (.inr (.inr h))
        · exact awake_of (.inr (.inl rfl))
        · exact awake_of (.inr (.inl rfl))
      · exact hsnd (k - (X.L + 1)) (by omega) (by omega)
  · exact awake_of ((hB.old k g id h0 hL hk).status.elim .inl fun x => .inr (.inr x))

theorem Bg.at (hRes : ResOk X) (hB : Bg X noH V gs w t) (d : Nat) : Bg X noH V gs (w.at d) t := by
  have := hB.com hRes (gs' := gs) (Aside.at X.Cm w d) hB.clM hB.neM (fun _ _ => rfl) rfl (plain_none (k := 0) (fn := default) (pos := "")) hB.chm (fun hw => (hB.chw hw).2.2.2) (fun _ _ _ => ⟨d, rfl⟩) (kd_chan hB.chm)
  have e : t ++ MemOp.ofEvents 0 default "" #[] = t := by
    have : MemOp.ofEvents 0 default "" #[] = #[] := rfl
    rw [this]; simp
  rwa [e] at this

/-- What is asked of the fan-in as a whole. -/
structure Whole (X : Cx) : Prop where
  res : ResOk X
  put : ResPut X
  poss : PossOk X
  full : FullOk X
  N : X.N < 2147483648

/-- A STEP OF THE MACHINE's. -/
theorem fanStep (W : Whole X) {μ : Nat × Nat} {m : Machine} (h : Inv X μ m t) :
    ∃ m' ops, stepT X.P m = (.next m', ops) ∧ (EndF X m' (t ++ ops) ∨ ∃ μ', LtM μ' μ ∧ Inv X μ' m' (t ++ ops)) := by
  obtain ⟨gs, w, sl, V, st, sm, rfl, hB, hwg, hm, hq, hl, rfl⟩ := h
  obtain ⟨k, g, d, sl', hg, hrun, hstep⟩ := crowd_pick (P := X.P) (w := w) (sl := sl) (allAwake hB) (someRuns hB hm hl)
  rw [hstep]
  have hB' := hB.at W.res d
  have hwg' : WgAt X.ty X.Wg (w.at d) st sm := hwg
  have nxt : Nxt X V gs (w.at d) sl' t k ∨ NEnd X gs (w.at d) sl' t k → ∃ m' ops, runT X.P (crowd gs (w.at d) sl') k = (.next m', ops) ∧ (EndF X m' (t ++ ops) ∨ ∃ μ', LtM μ' (meas X V) ∧ Inv X μ' m' (t ++ ops)) := fun h => by
    rcases h with ⟨m₁, ops, μ', h1, h2, h3⟩ | ⟨m₁, ops, h1, h2⟩
    · exact ⟨m₁, ops, h1, .inr ⟨μ', h2, h3⟩⟩
    · exact ⟨m₁, ops, h1, .inl h2⟩
  have hlt := lt_of_get hg
  rw [hB.sz] at hlt
  have hsnd : ∀ i, i < V.j → k = X.L + 1 + i → Nxt X V gs (w.at d) sl' t k := fun i hi e => by
    subst e
    rcases stepSender0 (sl := sl') W.res W.N hB' hwg' hm hq hl hi hg hrun with h | ⟨v, vs, m, hrem, h7, hf, hd, hs⟩
    · exact h
    · exact sendS W.res W.poss hB' hwg' hm hl hi hg hrem h7 hf hd hs
  apply nxt
  rcases Nat.eq_zero_or_pos k with rfl | h0
  · exact step0 W.res W.put W.full W.N hB' hwg' hm hq hl hg hrun
  rcases Nat.lt_or_ge X.L k with hL | hL
  · cases hc : V.hc with
    | false =>
      have := hB.nJ hc
      exact .inl (hsnd (k - (X.L + 1)) (by omega) (by omega))
    | true =>
      obtain ⟨h1, h2⟩ := hB.nC hc
      by_cases e : k = X.L + 1 + X.N
      · subst e
        exact stepC W.res W.put W.poss W.full hB' hwg' hm hq hl hc hg hrun
      · exact .inl (hsnd (k - (X.L + 1)) (by omega) (by omega))
  · exact .inl (stepO W.res hB' hwg' hm hq hl h0 hL hg hrun)

/-- THE FAN-IN ENDS, ON WHATEVER TAPE. -/
theorem fanRuns (W : Whole X) : ∀ (μ : Nat × Nat) (m : Machine) (t : Trace), Inv X μ m t → ∃ (n : Nat) (m' : Machine) (t' : Trace), runNT X.P n m t = (.next m', t') ∧ EndF X m' t' := by
  intro μ
  induction μ using ltM_wf.induction with
  | _ μ ih =>
    intro m t h
    obtain ⟨m', ops, hst, h' | ⟨μ', hlt, h'⟩⟩ := fanStep W h
    · exact ⟨1, m', t ++ ops, by simp [runNT, hst], h'⟩
    · obtain ⟨n, m'', t'', hr, he⟩ := ih μ' hlt m' (t ++ ops) h'
      exact ⟨n + 1, m'', t'', by simp only [runNT, hst]; exact hr, he⟩
end
end Go.Proofs.YtmmjlngbiilagaaGreatDoor

/-
  BEFORE AND BEHIND A FAN-IN: goroutine 0 walks beside goroutines that only leave; the bound of the trace's addresses is the heap's own size; and it comes to the first go statement's loop.
-/
namespace Go.Proofs.YtmmjlngbiilagaaGreatDoor
open Go Go.Conc
open Go.ConcR (KK wgBlock WgAt stA smA rd wr mk DC0 g_of_ofEvents ofEvent_mk)
open Go.ConcN (WgLive AtD4 WD CTag upd upd_same upd_ne sumTo sumTo_upd sumTo_upd_out sumTo_congr le_sumTo get_map_set get_map_set_same norel_of RelBy Deaf_still Deaf_absent Vc cnt OpenSt pend)

/-- What goroutine 0's step may list beside leavers: every address lies in a block that is there; and F. -/
def DB (Shun : Loc → Prop) (F : Event → Prop) (w w' : World) (es : Array Event) : Prop :=
  w.heap.size ≤ w'.heap.size ∧ ∀ e ∈ es, Go.Conc.EvL Shun w'.heap.size e ∧ F e

/-- An operation listed there. -/
def OpB (F : Event → Prop) (op : MemOp) : Prop := ∃ e : Event, op.act = .ofEvent e ∧ (F e ∨ e.mute = true)

/-- Beside leavers: what is held. -/
structure Bes (P : Program) (Shun : Loc → Prop) (gs : Array Goroutine) (w : World) (t : Trace) (q : Nat → Nat) : Prop where
  lv : Leavers P t gs q
  past : Past Shun w.heap.size t
  gs : ∀ op ∈ t, op.g < gs.size

theorem loc_ofE {e : Event} {m : Mark} (h : MemAct.ofEvent e = .mark m) : e.loc = .mark m := by
  obtain ⟨loc, wr, sy⟩ := e
  cases loc with
  | mark m' =>
    have e1 : MemAct.ofEvent ⟨.mark m', wr, sy⟩ = .mark m' := by cases wr <;> cases sy <;> rfl
    rw [e1] at h
    cases h
    rfl
  | cell a => cases h
  | obj r => cases wr <;> cases sy <;> cases h
  | output => cases wr <;> cases sy <;> cases h
  | goroutines => cases wr <;> cases sy <;> cases h

/-- Goroutine 0 comes to its stop. -/
def Went (P : Program) (Shun : Loc → Prop) (F : Event → Prop) (Stop : Goroutine → World → Prop) (gs : Array Goroutine) (w : World) (sl : Option (Nat × Nat)) (t : Trace) : Prop :=
  ∃ (N : Nat) (gs' : Array Goroutine) (a' : Goroutine) (w' : World) (sl' : Option (Nat × Nat)) (u : Trace) (q' : Nat → Nat),
    runNT P N (crowd gs w sl) t = (.next (crowd gs' w' sl'), t ++ u) ∧ gs'.size = gs.size ∧ gs'[0]? = some a' ∧ Stop a' w' ∧ Bes P Shun gs' w' (t ++ u) q' ∧ w.heap.size ≤ w'.heap.size ∧ ∀ op ∈ u, OpB F op

section
variable {P : Program} {Shun : Loc → Prop} {F : Event → Prop} {D : World → World → Array Event → Prop} {Stop : Goroutine → World → Prop}

theorem app_g {gs : Array Goroutine} {t u : Trace} {k : Nat} (h : ∀ op ∈ t, op.g < gs.size) (hu : ∀ op ∈ u, op.g = k) (hk : k < gs.size) : ∀ op ∈ t ++ u, op.g < gs.size := fun op hop =>
  (Array.mem_append.1 hop).elim (h op) fun x => by rw [hu op x]; exact hk

/-- GOROUTINE 0's WALK BESIDE LEAVERS, on whatever tape. -/
theorem walkB (hD : ∀ w w' es, D w w' es → DB Shun F w w' es) :
    ∀ (M n : Nat) (gs : Array Goroutine) (a : Goroutine) (w : World) (sl : Option (Nat × Nat)) (t : Trace) (q : Nat → Nat), n + sumTo gs.size q ≤ M → gs[0]? = some a → Bes P Shun gs w t q →
      Goes P true AtRel D Stop n a w →
      Went P Shun F Stop gs w sl t := by
  intro M
  induction M with
  | zero =>
    intro n gs a w sl t q hM h0 hB hG
    obtain rfl : n = 0 := by omega
    exact ⟨0, gs, a, w, sl, #[], q, by simp [runNT], rfl, h0, hG w (atRel_refl w), by simpa using hB, Nat.le_refl _, by simp⟩
  | succ M ih =>
    intro n gs a w sl t q hM h0 hB hG
    have stop : (∀ w₁, AtRel w w₁ → Stop a w₁) → Went P Shun F Stop gs w sl t := fun h =>
      ⟨0, gs, a, w, sl, #[], q, by simp [runNT], rfl, h0, h w (atRel_refl w), by simpa using hB, Nat.le_refl _, by simp⟩
    cases n with
    | zero => exact stop hG
    | succ n =>
      rcases hG with hstop | ⟨hrun, hstep⟩
      · exact stop hstop
      have hlt0 := lt_of_get h0
      have haw : ∀ g ∈ gs, awake g := by
        intro g hg
        obtain ⟨i, hi⟩ := Array.mem_iff_getElem?.1 hg
        rcases Nat.eq_zero_or_pos i with rfl | hpos
        · rw [h0] at hi; cases hi; exact awake_of (.inl hrun)
        · exact awake_of ((hB.lv.old i _ hpos hi).status.elim .inl fun x => .inr (.inr x))
      obtain ⟨i, g, d, sl', hi, hg, hst⟩ := crowd_pick (P := P) (w := w) (sl := sl) haw ⟨0, a, h0, hrun⟩
      have hlt := lt_of_get hi
      -- what a step of number i's leaves, laid together
      have fin : ∀ {g' : Goroutine} {w₁ : World} {es : Array Event} {n' : Nat} {a₁ : Goroutine} {q₁ : Nat → Nat}, runT P (crowd gs (w.at d) sl') i = (.next (crowd ((gs.map (woken P g g' w₁)).setIfInBounds i g') w₁ sl'), MemOp.ofEvents i g.frame.fn g.frame.place es) →
          n' + sumTo gs.size q₁ ≤ M → ((gs.map (woken P g g' w₁)).setIfInBounds i g')[0]? = some a₁ → Bes P Shun ((gs.map (woken P g g' w₁)).setIfInBounds i g') w₁ (t ++ MemOp.ofEvents i g.frame.fn g.frame.place es) q₁ →
          Goes P true AtRel D Stop n' a₁ w₁ → w.heap.size ≤ w₁.heap.size → (∀ e ∈ es, F e ∨ e.mute = true) → Went P Shun F Stop gs w sl t := fun {g' w₁ es n' a₁ q₁} hr hm h0' hB' hG' hsz hes => by
        obtain ⟨N, gs', a', w', sl'', u, q', e1, e2, e3, e4, e5, e6, e7⟩ := ih n' _ a₁ w₁ sl' _ q₁ (by simpa using hm) h0' hB' hG'
        exact (⟨N + 1, gs', a', w', sl'', MemOp.ofEvents i g.frame.fn g.frame.place es ++ u, q', by simp only [runNT, hst, hr]; rw [← Array.append_assoc]; exact e1, by simpa using e2, e3, e4, by rw [← Array.append_assoc]; exact e5, Nat.le_trans hsz e6, fun op hop =>
          (Array.mem_append.1 hop).elim (fun x => by obtain ⟨e, he, rfl⟩ := mem_ofE x; exact ⟨e, rfl, hes e he⟩) (e7 op)⟩ :
          Went P Shun F Stop gs w sl t)
      rcases Nat.eq_zero_or_pos i with rfl | hpos
      · obtain rfl : g = a := by rw [h0] at hi; exact (Option.some.inj hi).symm
        have hs := hstep (w.at d) ⟨d, rfl⟩
        obtain ⟨a', w', es, hgo, hd, hG'⟩ := goes_elim hs
        obtain ⟨hsz, hev⟩ := hD _ _ _ hd
        have hsz' : w.heap.size ≤ w'.heap.size := hsz
        refine fin (n' := n) (q₁ := q) (runT_crowd_go (P := P) (sl := sl') (i := 0) hi (show stepG P (0 == 0) g (w.at d) = _ from hgo)) (by omega) (get_map_set_same _ _ _ hlt0) ⟨⟨fun j x hj hx => ?_, fun j hj => ?_⟩, ?_, ?_⟩ hG' hsz' (fun e he => .inl (hev e he).2)
        · rw [get_map_set _ _ _ _ (by omega)] at hx
          obtain ⟨y, hy, rfl⟩ := Option.map_eq_some_iff.1 hx
          have hq := hB.lv.old j y hj hy
          rw [woken_quitsD hq, Deaf_other t (by omega) _ g_of_ofEvents]
          exact hq
        · rw [Deaf_other t (g' := 0) (by simp at hj; omega) _ g_of_ofEvents]
          exact hB.lv.above j (by simpa using hj)
        · exact (hB.past.mono hsz').own fun e he => (hev e he).1
        · have := app_g (gs := gs) hB.gs (g_of_ofEvents (fn := g.frame.fn) (pos := g.frame.place) (es := es)) hlt
          simpa using this
      · have hq := hB.lv.old i g hpos hi
        have hi0 : (i == 0) = false := by simp; omega
        cases hqi : q i with
        | zero => rw [hqi] at hq; rw [hq.1] at hg; cases hg
        | succ k =>
          rw [hqi] at hq
          rcases hq with ⟨hf, _⟩ | ⟨_, g', es, hm, hstp, hq'⟩
          · rw [hf] at hg; cases hg
          have hsum : sumTo gs.size (upd q i k) + (k + 1) = sumTo gs.size q + k := by
            have := sumTo_upd q k id hlt
            simpa [hqi] using this
          refine fin (n' := n + 1) (q₁ := upd q i k) (runT_crowd_go (P := P) (sl := sl') (i := i) hi (by rw [hi0]; exact hstp (w.at d))) (by omega) (by rw [get_map_set _ _ _ _ (by omega), h0, Option.map_some, woken_run hrun]) ⟨⟨fun j x hj hx => ?_, fun j hj => ?_⟩, ?_, ?_⟩ (Goes.rely atRel_trans (.inr ⟨hrun, hstep⟩) ⟨d, rfl⟩) (Nat.le_refl _) (fun e he => .inr (hm e he))
          · by_cases hji : i = j
            · subst hji
              rw [get_map_set_same _ _ _ hlt] at hx
              obtain rfl := Option.some.inj hx
              rw [upd_same, Deaf_own]
              exact hq'
            · rw [get_map_set _ _ _ _ hji] at hx
              obtain ⟨y, hy, rfl⟩ := Option.map_eq_some_iff.1 hx
              have hqj := hB.lv.old j y hj hy
              rw [woken_quitsD hqj, upd_ne q k (Ne.symm hji), Deaf_other t hji _ g_of_ofEvents]
              exact hqj
          · rw [Deaf_other t (g' := i) (by simp at hj; omega) _ g_of_ofEvents]
            exact hB.lv.above j (by simpa using hj)
          · exact hB.past.mute (by omega) hm
          · have := app_g (gs := gs) hB.gs (g_of_ofEvents (fn := g.frame.fn) (pos := g.frame.place) (es := es)) hlt
            simpa using this

/-- Neither block is touched. -/
def Shy2 (Cm Wg : Nat) (e : Event) : Prop := blk e.loc ≠ some Cm ∧ blk e.loc ≠ some Wg ∧ ∀ m, e.loc = .mark m → Neutral m

/-- WHERE A FAN-IN BEGINS: the channel and the group are made, nobody has touched them. -/
structure AtFan (X : Cx) (B1 : Nat) (a : Goroutine) (w : World) : Prop where
  Cm1 : B1 ≤ X.Cm
  Wg1 : B1 ≤ X.Wg
  wg : WgAt X.ty X.Wg w 0 0
  ch : w.heap[X.Cm]? = some (.chan 0 #[] false 0 0 false)
  Q : ∀ b, X.Q b → b < w.heap.size ∧ b ≠ X.Cm ∧ b ≠ X.Wg ∧ ∀ l, blk l = some b → ¬ X.Shun l
  tot : sumTo X.N (fun i => (X.vals i).length) = X.tot
  kd : Kd X.Nb X.B1 w
  nb : ∀ b, X.B1 ≤ b → X.Nb b
  wB : X.B1 ≤ X.Wg
  cB : X.B1 ≤ X.Cm
  dead : ∀ b, ¬ X.Nb b → b < w.heap.size ∧ w.heap[b]? = X.H0[b]?
  sp : ∃ O : Nat → Prop, (∀ b, O b → b < w.heap.size ∧ ¬ X.Q b ∧ b ≠ X.Cm ∧ b ≠ X.Wg ∧ ∀ l, blk l = some b → ¬ X.Shun l) ∧
    Sp X.P X.ty X.Wg X.Cm X.Q X.N X.vals X.Poss X.Full X.Res X.NextM X.tot X.N O a w

/-- THE INVARIANT AT THE BEGINNING. -/
theorem fanInv {X : Cx} {gs : Array Goroutine} {a : Goroutine} {w : World} {sl : Option (Nat × Nat)} {t u : Trace} {q : Nat → Nat} {B1 : Nat} (h0 : gs[0]? = some a) (hL : gs.size = X.L + 1) (hBes : Bes X.P X.Shun gs w (t ++ u) q)
    (ht : ∀ op ∈ t, op.act.low B1) (hu : ∀ op ∈ u, OpB (Shy2 X.Cm X.Wg) op) (h : AtFan X B1 a w) : ∃ μ, Inv X μ (crowd gs w sl) (t ++ u) := by
  classical
  obtain ⟨O, hO, hsp⟩ := h.sp
  have hCl := heap_lt h.ch
  have hWl := heap_lt h.wg
  have hne : X.Cm ≠ X.Wg := fun e => by
    have h1 : w.heap[X.Wg]? = _ := h.wg
    have h2 := h.ch
    rw [e, h1] at h2
    simp [wgBlock] at h2
  generalize hcl : (fun b => if b = X.Wg ∨ b = X.Cm then Cls.sh else if (∃ l, blk l = some b ∧ X.Shun l) then Cls.dead else if X.Q b then Cls.ro (X.L + 1) else Cls.own 0) = cl
  have clO : ∀ b g, cl b = .own g → g = 0 ∧ ∀ l, blk l = some b → ¬ X.Shun l := fun b g h => by
    subst hcl
    simp only at h
    split at h
    · cases h
    · split at h
      · cases h
      · rename_i h2
        split at h
        · cases h
        · cases h; exact ⟨rfl, fun l hl hs => h2 ⟨l, hl, hs⟩⟩
  have clR : ∀ b k, cl b = .ro k → ∀ l, blk l = some b → ¬ X.Shun l := fun b k h => by
    subst hcl
    simp only at h
    split at h
    · cases h
    · split at h
      · cases h
      · rename_i h2
        exact fun l hl hs => h2 ⟨l, hl, hs⟩
  have clSh : ∀ b, cl b = .sh → b = X.Wg ∨ b = X.Cm := fun b h => by
    subst hcl
    simp only at h
    split at h
    · assumption
    · split at h
      · cases h
      · split at h <;> cases h
  have clD : ∀ b, ¬ X.Nb b → cl b = .dead := fun b hb => by
    have h1 : b ≠ X.Wg := fun e => hb (h.nb b (by rw [e]; exact h.wB))
    have h2 : b ≠ X.Cm := fun e => hb (h.nb b (by rw [e]; exact h.cB))
    have h3 : ∃ l, blk l = some b ∧ X.Shun l := by
      by_cases hh : ∃ l, blk l = some b ∧ X.Shun l
      · exact hh
      · exact absurd (fun l hl hs => hh ⟨l, hl, hs⟩) hb
    subst hcl
    simp only
    rw [if_neg (by simp [h1, h2]), if_pos h3]
  have clOO : ∀ b, O b → cl b = .own 0 := fun b hb => by
    obtain ⟨_, h2, h3, h4, h5⟩ := hO b hb
    subst hcl
    simp only
    rw [if_neg (by simp [h3, h4]), if_neg (fun ⟨l, h1, hs⟩ => h5 l h1 hs), if_neg h2]
  have clQQ : ∀ b, X.Q b → cl b = .ro (X.L + 1) := fun b hb => by
    obtain ⟨_, h3, h4, h5⟩ := h.Q b hb
    subst hcl
    simp only
    rw [if_neg (by simp [h3, h4]), if_neg (fun ⟨l, h1, hs⟩ => h5 l h1 hs), if_pos hb]
  have hW : cl X.Wg = .sh := by subst hcl; simp
  have hC : cl X.Cm = .sh := by subst hcl; simp
  -- nobody has touched the two
  have untouched : ∀ i x, touchAt (t ++ u) i = some x → blk x.loc ≠ some X.Cm ∧ blk x.loc ≠ some X.Wg := fun i x hx => by
    rcases touch_cases hx with ⟨_, hx'⟩ | ⟨_, op, _, hop, hx'⟩
    · obtain ⟨op, ho, hox⟩ := touch_of hx'
      have hlow := ht op (mem_of_getElem? ho)
      have h1 := h.Cm1
      have h2 := h.Wg1
      exact ⟨fun e => by have := low_blk hlow hox e; omega, fun e => by have := low_blk hlow hox e; omega⟩
    · obtain ⟨e, he, hF | hF⟩ := hu op hop
      · rw [he] at hx'
        obtain ⟨h1, h2, h3⟩ := hF
        obtain ⟨loc, wr, sy⟩ := e
        cases loc with
        | cell a =>
          have e1 : MemAct.ofEvent ⟨.cell a, wr, sy⟩ = .access ⟨.cell a, wr, sy⟩ := rfl
          rw [e1] at hx'
          simp only [MemAct.touch?, Option.some.injEq] at hx'
          subst hx'
          exact ⟨h1, h2⟩
        | obj r =>
          cases wr <;> cases sy <;> simp only [MemAct.ofEvent, MemAct.touch?, Option.some.injEq, reduceCtorEq] at hx' <;> subst hx' <;> exact ⟨h1, h2⟩
        | mark m =>
          have e1 : MemAct.ofEvent ⟨.mark m, wr, sy⟩ = .mark m := by cases wr <;> cases sy <;> rfl
          rw [e1, Neutral.touch (h3 m rfl)] at hx'
          cases hx'
        | output =>
          cases wr <;> cases sy <;> simp only [MemAct.ofEvent, MemAct.touch?, Option.some.injEq, reduceCtorEq] at hx' <;> subst hx' <;> exact ⟨by simp [blk], by simp [blk]⟩
        | goroutines =>
          cases wr <;> cases sy <;> simp only [MemAct.ofEvent, MemAct.touch?, Option.some.injEq, reduceCtorEq] at hx' <;> subst hx' <;> exact ⟨by simp [blk], by simp [blk]⟩
      · rw [he, touch_mute hF] at hx'; cases hx'
  have hnor : NoRelease (stA X.Wg) (t ++ u) := fun i hi => by
    obtain ⟨op, ho, hoa⟩ := Option.map_eq_some_iff.1 hi
    rcases getElem?_append_cases ho with ⟨_, ho'⟩ | ⟨_, hou⟩
    · have hlow := ht op (mem_of_getElem? ho')
      rw [hoa] at hlow
      have h2 := h.Wg1
      have : X.Wg < B1 := hlow
      omega
    · obtain ⟨e, he, hF | hF⟩ := hu op hou
      · rw [he] at hoa
        have hl := loc_ofE hoa
        have := hF.2.2 _ hl
        cases this
      · rw [he] at hoa
        have hl := loc_ofE hoa
        obtain ⟨loc, wr, sy⟩ := e
        simp only at hl
        subst hl
        simp [Event.mute] at hF
  have kn : ∀ i x, touchAt (t ++ u) i = some x → x.loc.isMemory = true → (∀ b, blk x.loc = some b → ∀ l, blk l = some b → ¬ X.Shun l) → Knows (t ++ u) 0 i := fun i x hx hm hs => by
    rcases hBes.past.known i x hx hm with h | ⟨h, _⟩
    · exact h
    · obtain ⟨b, hb⟩ : ∃ b, blk x.loc = some b := by
        revert hm
        cases x.loc <;> simp [Loc.isMemory, blk]
      exact absurd h (hs b hb x.loc hb)
  have hti : TI X.Shun cl X.Wg X.L (X.L + 1) w.heap.size (t ++ u) :=
    ⟨hBes.past.clean, fun i x b g hx hb hc => by obtain ⟨rfl, hs⟩ := clO b g hc; exact kn i x hx (blk_mem hb) (fun b' hb' => by rw [hb] at hb'; cases hb'; exact hs),
      fun i x b k hx hb hc _ => kn i x hx (blk_mem hb) (fun b' hb' => by rw [hb] at hb'; cases hb'; exact clR b k hc), fun i x b k g hx hb hc _ _ h1 h2 => by omega,
      fun i x b hx hb hc => by
        obtain ⟨h1, h2⟩ := untouched i x hx
        rcases clSh b hc with rfl | rfl
        · exact absurd hb h2
        · exact absurd hb h1,
      hBes.past.seen, fun op hop => by rw [← hL]; exact hBes.gs op hop, fun i x hx hm => (hBes.past.known i x hx hm).imp id .inl, fun i x g _ hg hLg _ => by
        obtain ⟨op, ho, rfl⟩ := Option.map_eq_some_iff.1 hg
        have := hBes.gs op (mem_of_getElem? ho)
        omega,
      fun i g hg hg0 _ hc => hBes.past.over i g hg hg0 hc⟩
  have key : ∀ (tag : MT) (m : Nat), X.ms { j := 0, hc := false, hw := false, shut := false, tag := tag, f0 := m, d0 := 0, O := O, S := noO, Cw := 0, D := fun _ => ⟨7, 0, 0⟩, rem := X.vals, OS := fun _ => noO, l := [], cst := 4, cfu := 0, OC := noO, qo := q, cl := cl, n := X.L + 1 } a w →
      (¬ hasC tag ∧ ¬ hasW tag ∧ isShut tag = false) → (ConcN.isOpen (toC tag) ∧ pend (toC tag) = 0 ∧ ∀ vs, toC tag ≠ .w2 vs) → ¬ isPost tag → tag ≠ .prw → ∃ μ, Inv X μ (crowd gs w sl) (t ++ u) := by
    intro tag m hms ⟨hf1, hf2, hf3⟩ ⟨ho1, ho2, ho3⟩ hnp hpr
    refine ⟨_, gs, w, sl, _, 0, 0, rfl, ⟨hL, fun h => (by cases h), fun _ => rfl, fun h => (by cases h), fun _ => ⟨a, h0, hms⟩, fun _ => ⟨by simp [hf1], by simp [hf2], hf3.symm⟩, fun _ => hBes.past.hears, fun _ b hb => ⟨clOO b hb, (hO b hb).1⟩,
      fun i x _ hi _ hx => hBes.lv.old i x hi hx, fun i hi => (by cases hi), fun i hi => (by cases hi), fun i hi => (by cases hi), fun i hi => (by cases hi), fun h => (by cases h), fun h => (by cases h), fun h => (by cases h), hti, hnor, hW, hC, hne,
      fun b hb => ⟨⟨_, Nat.le_refl _, clQQ b hb⟩, (h.Q b hb).1⟩, fun h => (by cases h), ⟨0, 0, h.wg⟩, ⟨0, 0, h.ch⟩, fun h => (by cases h), ⟨h.kd, fun b k hb => (clO b k hb).2, h.nb, h.wB, fun b hb => ⟨clD b hb, h.dead b hb⟩⟩⟩, h.wg, ?_, fun hp => absurd hp hnp, ?_, rfl⟩
    · have := ConcN.Mode.opn (j := 0) (D := fun _ => (⟨7, 0, 0⟩ : WD)) ho1 (fun i hi => by omega) (fun vs e => absurd e (ho3 vs))
      simpa [Vc, sumTo, ho2] using this
    · exact ⟨.nil, by simpa using h.tot, fun i _ _ => ⟨rfl, rfl, rfl⟩, Nat.zero_le _, fun _ => ⟨rfl, rfl, rfl⟩, .inl rfl, fun h => absurd (show 4 ≤ 3 from h) (by decide), fun h => (by cases h), fun h => absurd h hpr, fun i hi => (by cases hi), fun h => (by cases h)⟩
  generalize hNN : X.N = NN at hsp
  cases NN with
  | zero =>
    obtain ⟨m, hk⟩ := hsp
    refine key (.gc 2) m ?_ ⟨fun h => h, by simp [hasW], rfl⟩ ⟨trivial, rfl, by simp [toC]⟩ (fun h => h) (by simp)
    have hg := MSit.gmk (N := X.N) (vals := X.vals) (S := noO) (Cw := 0) hk
    simp only [Cx.ms]
    rw [hNN] at hg ⊢
    exact hg
  | succ r =>
    obtain ⟨m, hk⟩ := hsp
    refine key (.sp r 6) m ?_ ⟨fun h => h, fun h => h, rfl⟩ ⟨trivial, rfl, by simp [toC]⟩ (fun h => h) (by simp)
    have hg := MSit.skd (N := r + 1) (S := noO) (Cw := 0) (Nat.lt_succ_self r) hk
    rw [Nat.sub_self] at hg
    simp only [Cx.ms]
    rw [hNN]
    exact hg
end
end Go.Proofs.YtmmjlngbiilagaaGreatDoor

/-
  A RUN WITH ONE FAN-IN IN IT, from the entry to the return: the walk to the fan-in, alone; the fan-in; the walk behind it, beside leavers.
-/
namespace Go.Proofs.YtmmjlngbiilagaaGreatDoor
open Go Go.Conc
open Go.ConcN (sumTo)

/-- THROUGH A FAN-IN. -/
theorem fanPass {X : Cx} (W : Whole X) {gs : Array Goroutine} {a : Goroutine} {w : World} {sl : Option (Nat × Nat)} {t : Trace} {q : Nat → Nat} {D : World → World → Array Event → Prop} {n : Nat}
    (h0 : gs[0]? = some a) (hL : gs.size = X.L + 1) (hBes : Bes X.P X.Shun gs w t q) (hD : ∀ w w' es, D w w' es → DB X.Shun (Shy2 X.Cm X.Wg) w w' es)
    (hG : Goes X.P true AtRel D (AtFan X w.heap.size) n a w) : ∃ (N : Nat) (m' : Machine) (t' : Trace), runNT X.P N (crowd gs w sl) t = (.next m', t') ∧ EndF X m' t' := by
  obtain ⟨N, gs', a', w', sl', u, q', hr, hsz, h0', hst, hB', _, hu⟩ := walkB hD _ n gs a w sl t q (Nat.le_refl _) h0 hBes hG
  obtain ⟨μ, hI⟩ := fanInv (sl := sl') h0' (hsz.trans hL) hB' hBes.past.seen hu hst
  obtain ⟨N', m', t', hr', hE⟩ := fanRuns W μ _ _ hI
  exact ⟨N + N', m', t', by rw [runNT_add, hr]; exact hr', hE⟩

/-- What is asked where goroutine 0 comes near the fan-in. -/
def ToFan (P : Program) (Post : Value → World → Prop) (a : Goroutine) (w : World) : Prop :=
  ∃ (X : Cx) (D : World → World → Array Event → Prop) (m : Nat), X.P = P ∧ X.L = 0 ∧ X.Shun = (fun _ => False) ∧ Whole X ∧ (∀ w w' es, D w w' es → DB (fun _ => False) (Shy2 X.Cm X.Wg) w w' es) ∧
    Goes P true AtRel D (AtFan X w.heap.size) m a w ∧
    ∀ v a' w' l, X.NextM v a' w' → X.Full l → X.Res l v w' → ∃ (D' : World → World → Array Event → Prop) (k : Nat),
      (∀ w₁ w₂ es, D' w₁ w₂ es → ∀ e ∈ es, Go.Conc.EvL (ShunE X) w'.heap.size e) ∧ Goes P true AtRel D' (AtEnd P (ShunE X) w'.heap.size Post) k a' w'

/-- ONE GOOD RUN, ON WHATEVER TAPE. -/
theorem fanWhole {P : Program} {Post : Value → World → Prop} {a : Goroutine} {w : World} {D : World → World → Array Event → Prop} {n : Nat} (hD : ∀ w w' es, D w w' es → DB (fun _ => False) (fun _ => True) w w' es)
    (h : Goes P true AtRel D (ToFan P Post) n a w) :
    ∃ M last o w' t', runNT P (M + 1) (solo a w) #[] = (.ended o w', t') ∧ runN P M (solo a w) = .next last ∧ step P last = .ended o w' ∧ Good P Post last o w' t' := by
  have hB0 : Bes P (fun _ => False) #[a] w #[] (fun _ => 0) := ⟨leavers_one P a, past_nil.mono (Nat.zero_le _), by simp⟩
  obtain ⟨N, gs', a', w', sl', u, q', hr, hsz, h0', ⟨X, D2, m, rfl, hXL, hXS, W, hD2, hG2, hnext⟩, hB', _, hu⟩ := walkB hD _ n #[a] a w none #[] (fun _ => 0) (Nat.le_refl _) (by simp) hB0 h
  rw [← hXS] at hB' hD2
  obtain ⟨N', m', t', hr', gs2, w2, sl2, a2, l, v, q2, rfl, h02, hnx, hfull, hres, _, hlv, hpast, hgs⟩ := fanPass W (sl := sl') h0' (by rw [hsz, hXL]; rfl) hB' hD2 hG2
  obtain ⟨D3, k, hD3, hG3⟩ := hnext v a2 w2 l hnx hfull hres
  obtain ⟨M, last, o, w3, t3, e1, e2, e3, e4⟩ := beside_ends (sl := sl2) hD3 h02 hlv hpast hG3
  have e0 : runNT X.P (N + N') (solo a w) #[] = (.next (crowd gs2 w2 sl2), t') := by
    rw [solo_eq_crowd, runNT_add, hr]
    exact hr'
  refine ⟨N + N' + M, last, o, w3, t3, ?_, ?_, e3, e4⟩
  · rw [Nat.add_assoc (N + N'), runNT_add, e0]; exact e1
  · rw [runN_add, ← runNT_fst X.P _ _ #[], e0]; exact e2
end Go.Proofs.YtmmjlngbiilagaaGreatDoor
