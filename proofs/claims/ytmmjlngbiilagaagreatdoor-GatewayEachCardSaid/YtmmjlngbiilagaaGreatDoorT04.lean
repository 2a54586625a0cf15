/-
  A FAN-IN: whatever step of the collector's keeps the invariant and lowers the measure, or ends the fan-in.
-/
import Derived.Test.YtmmjlngbiilagaaGreatDoorT03

namespace Go.Proofs.YtmmjlngbiilagaaGreatDoor
open Go Go.Conc
open Go.ConcR (KK wgBlock WgAt stA smA rd wr mk DC0 g_of_ofEvents)
open Go.ConcN (WgLive AtD4 WD CTag upd upd_same upd_ne sumTo sumTo_upd sumTo_congr le_sumTo get_map_set get_map_set_same norel_of RelBy RelBy.appOther RelBy.appNot RelBy.new Deaf_still Deaf_absent Vc cnt Vc_upd Vc_le OpenSt others_uncounted isW3 pend deafBehind_idle)

section
variable {X : Cx} {V : Vx} {gs gs' : Array Goroutine} {w w' : World} {sl : Option (Nat × Nat)} {t u : Trace} {st sm : Int}

theorem NxV_ext {P : Program} {ty : TypeId} {Wg Cm : Nat} {Q : Nat → Prop} {Cw : Nat} {Poss Full : List Value → Prop} {Res : List Value → Value → World → Prop} {r : Nat} {l : List Value} {v : Value} {O : Nat → Prop} {g : Goroutine} {w : World}
    (h : NxV P ty Wg Cm Q Cw Poss Full Res r l v O g w) : NxV P ty Wg Cm Q Cw Poss Full Res r l v O g w := h

/-- All is received once the channel is closed. -/
theorem allGot (hB : Bg X noH V gs w t) (hm : ConcN.Mode V.j V.D (toC V.tag) st sm) (hl : Lk X V) (hc : V.hc = true) (hsh : V.shut = true) : ∀ i, i < X.N → V.rem i = [] := fun i hi => by
  have hj := (hB.nC hc).2
  exact hl.rn i (by omega) (by rw [allQuit hB hm hsh i (by omega)]; decide)

/-- A sender that is parked. -/
theorem Bg.parkedS (hB : Bg X noH V gs w t) {i : Nat} (hi : i < V.j) (hf : (V.D i).fuel = 0) (hr : V.rem i ≠ []) :
    ∃ (g₀ : Goroutine) (v z : Value) (vs : List Value), gs[X.L + 1 + i]? = some (parked (core g₀) #[scase X.Cm v z] .send) ∧ V.rem i = v :: vs ∧ (V.D i).stage = 7 ∧ (V.D i).deaf = 0 ∧
      ∀ w₁, RO X.ty X.Wg X.Q (V.OS i) w w₁ → Snd X.P X.ty X.Wg X.Cm X.Q vs (V.OS i) (Conc.served (core g₀) undef) w₁ := by
  obtain ⟨x, hx, hs⟩ := hB.snd i hi id
  unfold Cx.ss at hs
  generalize hrem : V.rem i = rm at hs hr
  generalize hst : (V.D i).stage = s at hs
  rw [hf] at hs
  generalize hde : (V.D i).deaf = dd at hs
  cases hs with
  | prk h => exact ⟨_, _, _, _, hx, rfl, rfl, rfl, h⟩
  | r0 _ => exact absurd rfl hr
  | k1 _ => exact absurd rfl hr
  | d1 _ => exact absurd rfl hr
  | d2 _ => exact absurd rfl hr
  | d3 _ => exact absurd rfl hr
  | d4 _ => exact absurd rfl hr
  | quit _ => exact absurd rfl hr

/-- The collector goes on by itself. -/
theorem stepCo (hRes : ResOk X) (hB : Bg X noH V gs w t) (hwg : WgAt X.ty X.Wg w st sm) (hm : ConcN.Mode V.j V.D (toC V.tag) st sm) (hq : isPost V.tag → AcqA X V.j t) (hl : Lk X V) (hc : V.hc = true)
    {g g' : Goroutine} (hg : gs[X.L + 1 + X.N]? = some g) {es : Array Event} {m' : Nat} {O' : Nat → Prop} (hgo : stepG X.P false g w = .go g' w' es) (hD : DOx V.OC O' V.S w w' es)
    (hs : CSit X.P X.ty X.Wg X.Cm V.S V.Cw X.Poss X.Full X.Res V.l (X.tot - V.l.length) V.cst (m' + 1) O' g' w') (hf : V.cfu = m' + 2) : Nxt X V gs w sl t (X.L + 1 + X.N) := by
  have hk0 : (X.L + 1 + X.N == 0) = false := by simp
  have hn := (hB.nC hc).1
  obtain ⟨cl', hE, hO', _⟩ := Eff.own (fn := g.frame.fn) (pos := g.frame.place) hB (.inr (by omega)) (by omega) hD (hB.oC hc id)
    (fun b hb => ⟨⟨_, (hB.clS hc b hb).1.choose_spec.2, .inr (hB.clS hc b hb).1.choose_spec.1⟩, (hB.clS hc b hb).2⟩) (fun _ _ h => absurd rfl h)
  obtain ⟨tag', f', hB', hgk, hff, htag, hwk⟩ := (hB.less (H' := (· = X.L + 1 + X.N)) (fun _ h => h.elim)).go (g' := g') hRes hg hE (hB.s7 hm) hl.c40
  have hrunT := runT_crowd_go (P := X.P) (sl := sl) (i := X.L + 1 + X.N) hg (by rw [hk0]; exact hgo)
  have hdt : Deaf (t ++ MemOp.ofEvents (X.L + 1 + X.N) g.frame.fn g.frame.place es) (X.L + 1 + X.N) = 0 := by
    rw [Deaf_own, hB.dC hc id]; exact deaf_evP hD.ev 0
  have hF := Bg.fillC (V := { V with tag := tag', f0 := f', cl := cl' }) (H' := noH) (l := V.l) (c := V.cst) (f := m' + 1) (O' := O') hc hB' (fun k _ => Classical.em _) hgk hs hdt hO'
  have htC : toC tag' = toC V.tag ∨ (toC V.tag = .blk ∧ toC tag' = .w3) := by
    rcases htag with ⟨rfl, _⟩ | ⟨_, e, rfl⟩
    · exact .inl rfl
    · exact .inr ⟨by rw [e]; rfl, rfl⟩
  refine ⟨_, _, _, hrunT, ?_, _, w', sl, _, st, sm, rfl, hF, hwg.of_block (hD.block _ (heap_lt hwg) fun ho => by have := (hB.oC hc id _ ho).1; rw [hB.clW] at this; cases this), hm.retag htC, fun hp => ?_, ?_, rfl⟩
  · have e2 : phi X.N (Vc V.j V.D) tag' = phi X.N (Vc V.j V.D) V.tag := by
      rcases htag with ⟨rfl, _⟩ | ⟨_, e, rfl⟩
      · rfl
      · rw [e]; rfl
    simp only [meas, wgt, fsum, osum, e2]
    refine Prod.Lex.right _ ?_
    omega
  · have hp' : isPost V.tag := by
      rcases htag with ⟨rfl, _⟩ | ⟨_, e, rfl⟩
      · exact hp
      · exact hp.elim
    have hj := (hB.nC hc).2
    exact (hq hp').app fun a r ha hr => hr.appOther g_of_ofEvents (by omega)
  · refine ⟨hl.mrg, hl.cnt, hl.un, hl.jN, fun h => absurd (hc.symm.trans h) (by decide), hl.c4, hl.sh, fun _ _ h => absurd (show m' + 1 = 0 from h) (by omega), fun h => ?_, hl.rn, fun _ _ _ => (show m' + 1 ≠ 0 by omega)⟩
    rcases htag with ⟨rfl, _⟩ | ⟨_, e, rfl⟩
    · exact hl.ex2 h
    · cases h

/-- The collector waits, or finds the channel closed, or waits to hand over: the world stands. -/
theorem turnCo (hRes : ResOk X) (hB : Bg X noH V gs w t) (hwg : WgAt X.ty X.Wg w st sm) (hm : ConcN.Mode V.j V.D (toC V.tag) st sm) (hq : isPost V.tag → AcqA X V.j t) (hl : Lk X V) (hc : V.hc = true)
    {g g' : Goroutine} (hg : gs[X.L + 1 + X.N]? = some g) {c f : Nat} (hs : CSit X.P X.ty X.Wg X.Cm V.S V.Cw X.Poss X.Full X.Res V.l (X.tot - V.l.length) c f V.OC g' w)
    (hp : Plain X V.n w.heap.size (· = X.L + 1 + X.N) u) (hlt : c < V.cst ∨ (c = V.cst ∧ f < V.cfu)) (h4 : c = 4 ∨ c = 3 ∨ c = 2) (hsh : c ≤ 3 → V.shut = true)
    (h1 : c = 4 → f = 0 → ∀ i, i < V.j → V.rem i ≠ [] → (V.D i).fuel ≠ 0) (h2 : V.tag = .prw → c ≠ 2) (h3 : V.shut = true → c = 4 → f ≠ 0) :
    ∃ μ', LtM μ' (meas X V) ∧ Inv X μ' (crowd (gs.setIfInBounds (X.L + 1 + X.N) g') w sl) (t ++ u) := by
  have hlt' := lt_of_get hg
  have hB1 : Bg X (· = X.L + 1 + X.N) V (gs.setIfInBounds (X.L + 1 + X.N) g') w (t ++ u) :=
    (hB.less (fun _ h => h.elim)).com hRes (.refl X.Cm w) hB.clM hB.neM (fun k hk => by rw [Array.getElem?_setIfInBounds_ne (Ne.symm hk)]) (by simp) hp hB.chm (fun hw => (hB.chw hw).2.2.2) (fun _ _ _ => atRel_refl w) (kd_chan hB.chm)
  have hF := Bg.fillC (H' := noH) (l := V.l) (c := c) (f := f) (O' := V.OC) hc hB1 (fun k _ => Classical.em _) (by rw [Array.getElem?_setIfInBounds_self_of_lt hlt']) hs ((Deaf_still t _ _ hp.nd).trans (hB.dC hc id)) (hB.oC hc id)
  have hj := (hB.nC hc).2
  refine ⟨_, ?_, _, w, sl, _, st, sm, rfl, hF, hwg, hm, fun hpo => (hq hpo).app fun a r ha hr => hr.appNot fun op hop e => ?_, ?_, rfl⟩
  · simp only [meas, wgt, fsum, osum]
    rcases hlt with h | ⟨rfl, h⟩
    · refine Prod.Lex.left _ _ ?_
      omega
    · refine Prod.Lex.right _ ?_
      omega
  · have := (hp.gs op hop).2
    omega
  · exact ⟨hl.mrg, hl.cnt, hl.un, hl.jN, fun h => (by simp only [hc] at h; cases h), h4, hsh, fun _ => h1, h2, hl.rn, fun h _ => h3 h⟩

theorem plain_closed {B n : Nat} {i c : Nat} {fn fn1 : FuncId} {pos p1 : String} (hi : i < n) (hcB : c < B) (k : Nat) :
    Plain X n B (· = i) (MemOp.ofEvents k fn pos #[] ++ #[{ g := i, fn := fn1, pos := p1, act := .recvClosed c }]) := by
  have e : MemOp.ofEvents k fn pos #[] = #[] := rfl
  rw [e]
  refine ⟨fun op h => ?_, fun op h => ?_, fun op h => ?_, fun op h => ?_, fun op h => ?_⟩ <;> simp at h <;> subst h <;> first | rfl | exact hcB | exact ⟨hi, rfl⟩ | trivial | (simp; done)

set_option maxHeartbeats 1600000 in
/-- A STEP OF THE COLLECTOR's. -/
theorem stepC (hRes : ResOk X) (hPut : ResPut X) (hPoss : PossOk X) (hFull : FullOk X) (hB : Bg X noH V gs w t) (hwg : WgAt X.ty X.Wg w st sm) (hm : ConcN.Mode V.j V.D (toC V.tag) st sm) (hq : isPost V.tag → AcqA X V.j t) (hl : Lk X V) (hc : V.hc = true)
    {g : Goroutine} (hg : gs[X.L + 1 + X.N]? = some g) (hrun : g.status = .running) : Nxt X V gs w sl t (X.L + 1 + X.N) ∨ NEnd X gs w sl t (X.L + 1 + X.N) := by
  have hk0 : (X.L + 1 + X.N == 0) = false := by simp
  have hn := (hB.nC hc).1
  have hj := (hB.nC hc).2
  have hlt := lt_of_get hg
  obtain ⟨g₁, hg₁, hs⟩ := hB.col hc id
  obtain rfl : g = g₁ := by rw [hg] at hg₁; exact Option.some.inj hg₁
  unfold Cx.cs at hs
  generalize hcs : V.cst = c at hs
  generalize hcf : V.cfu = f at hs
  generalize hOC : V.OC = O at hs
  generalize htl : X.tot - V.l.length = r at hs
  cases hs with
  | prk h => simp [parked] at hrun
  | pkw h _ => simp [parked] at hrun
  | quit h => rcases hl.c4 with h | h | h <;> omega
  | srt h =>
    rename_i m
    subst hOC
    have hsh : V.shut = true := hl.sh (by omega)
    have hfull : X.Full V.l := hFull _ _ hl.mrg (allGot hB hm hl hc hsh)
    rcases h.cases with hstop | ⟨m', rfl, _, hstep⟩
    · obtain ⟨_, v, z, hcomm, hres, q, hqt⟩ := hstop w (atRel_refl _)
      have hw := hB.hwC hc
      obtain ⟨hclw, hw1, hw2, s, hch⟩ := hB.chw hw
      by_cases hprw : V.tag = .prw
      · right
        obtain ⟨a, ha, hms⟩ := hB.main id
        unfold Cx.ms at hms
        obtain ⟨g₀, z', rfl, hd0, hnx⟩ : ∃ (g₀ : Goroutine) (z' : Value), a = parked (core g₀) #[rcase V.Cw z'] (.recv false) ∧ V.d0 = 0 ∧ (∀ v w₁, Rl X.ty X.Wg V.S w w₁ → X.NextM v (Conc.served (core g₀) v) w₁) := by
          rw [hprw] at hms
          generalize V.j = jj at hms
          generalize V.f0 = ff at hms
          generalize V.d0 = dd at hms
          generalize V.O = OO at hms
          cases hms with
          | prw h => exact ⟨_, _, rfl, rfl, h⟩
        have hpart : partners (gs.setIfInBounds (X.L + 1 + X.N) ph) V.Cw false = [(0, 0)] :=
          onePart (by omega) ha (by rw [offersAt_parked_recv, if_pos rfl]) (fun a x _ ha0 hx => (hB.off hx).recvW hB hw (.inl ha0))
        have hrunT := crowd_send_meets (P := X.P) (sl := sl) hg (by rw [hk0]; exact hcomm) hch (by omega) ha hpart
        rw [finishComm_send, finishComm_recv] at hrunT
        have hA : Aside V.Cw w (w.setChan V.Cw 0 #[] false (s + 1) (s + 1) false) := Aside.put V.Cw w _
        have hRl : Rl X.ty X.Wg V.S w (w.setChan V.Cw 0 #[] false (s + 1) (s + 1) false) :=
          ⟨hA.tape, hA.os, hA.output, by rw [hA.size]; exact Nat.le_refl _, fun b hb => hA.block b (fun e => by
            obtain ⟨⟨k, _, h⟩, _⟩ := hB.clS hc b hb
            rw [e, hclw] at h; cases h), fun ⟨s1, s2, h⟩ => ⟨s1, s2, h.of_block (hA.block _ (Ne.symm hw1))⟩⟩
        refine ⟨_, _, hrunT, ?_⟩
        exact finish hPut hB hm hq (by rw [hprw]; trivial) hc hch hres hfull (hnx v _ hRl) hqt hd0
          (fun k h1 h2 => by rw [Array.getElem?_setIfInBounds_ne (Ne.symm h2), Array.getElem?_setIfInBounds_ne (Ne.symm h1)]) (by simp)
          (by rw [Array.getElem?_setIfInBounds_ne (by omega), Array.getElem?_setIfInBounds_self_of_lt (lt_of_get ha)]; rfl)
          (by rw [Array.getElem?_setIfInBounds_self_of_lt (by simpa using hlt)])
      · left
        have hpart : partners (gs.setIfInBounds (X.L + 1 + X.N) ph) V.Cw false = [] :=
          noParts fun a x ha hx => (hB.off hx).recvW hB hw (.inr hprw)
        have hrunT := crowd_waits (P := X.P) (sl := sl) hg (by rw [hk0]; exact hcomm) (fun cc hcc => by
          simp at hcc
          subst hcc
          exact ways_send_none hch (by simp) hpart)
        obtain ⟨μ', h1, h2⟩ := turnCo (sl := sl) hRes hB hwg hm hq hl hc hg (c := 2) (f := 0) (.pkw hres hqt) (plain_none (k := X.L + 1 + X.N) (fn := g.frame.fn) (pos := g.frame.place)) (.inl (by omega)) (.inr (.inr rfl)) (fun _ => hsh)
          (fun h => absurd h (by decide)) (fun h => absurd h hprw) (fun _ h => absurd h (by decide))
        exact ⟨_, _, μ', hrunT, h1, h2⟩
    · obtain ⟨g', w', es, hgo, O', hD, hg'⟩ := hstep w (atRel_refl _)
      exact .inl (stepCo hRes hB hwg hm hq hl hc hg hgo hD (by rw [hcs]; exact .srt hg') (by omega))
  | rcv h =>
    rename_i m
    subst hOC
    rcases h.cases with hstop | ⟨m', rfl, _, hstep⟩
    · left
      obtain ⟨_, z, hcomm, hval, hclo⟩ := hstop w (roRf _ _)
      obtain ⟨s, r', hch⟩ := hB.chm
      cases hsh : V.shut with
      | true =>
        rw [hsh] at hch
        have hgot := allGot hB hm hl hc hsh
        have hfull : X.Full V.l := hFull _ _ hl.mrg hgot
        have hpart : partners (gs.setIfInBounds (X.L + 1 + X.N) ph) X.Cm true = [] :=
          noParts fun a x ha hx => (hB.off hx).sendM hB fun i hi _ _ hr => hr (hgot i (by omega))
        have hrunT := crowd_recv_closed (P := X.P) (sl := sl) hg (by rw [hk0]; exact hcomm) hch hpart
        rw [finishComm_recv] at hrunT
        obtain ⟨m₂, hsrt⟩ := hclo w (roRf _ _) hfull
        obtain ⟨μ', h1, h2⟩ := turnCo (sl := sl) hRes hB hwg hm hq hl hc hg (c := 3) (f := m₂ + 1) (.srt hsrt) (plain_closed (X := X) (c := X.Cm) (fn := g.frame.fn) (pos := g.frame.place) (fn1 := (core g).frame.fn) (p1 := (core g).frame.place) (by omega) (heap_lt hch) (X.L + 1 + X.N))
          (.inl (by omega)) (.inr (.inl rfl)) (fun _ => hsh) (fun h => absurd h (by decide)) (fun _ => by decide) (fun _ h => absurd h (by decide))
        exact ⟨_, _, μ', hrunT, h1, h2⟩
      | false =>
        rw [hsh] at hch
        by_cases hex : ∃ i, i < V.j ∧ V.rem i ≠ [] ∧ (V.D i).fuel = 0
        · obtain ⟨i₀, hi₀, hr₀, hf₀⟩ := hex
          obtain ⟨ga, va, za, vsa, hga, _⟩ := hB.parkedS hi₀ hf₀ hr₀
          have hne : partners (gs.setIfInBounds (X.L + 1 + X.N) ph) X.Cm true ≠ [] := fun e => by
            have : (X.L + 1 + i₀, 0) ∈ partners (gs.setIfInBounds (X.L + 1 + X.N) ph) X.Cm true := mem_partners.2 ⟨_, stand_get (by omega) hga, by rw [offersAt_parked_send, if_pos rfl]; simp⟩
            rw [e] at this; cases this
          obtain ⟨j, gj, vj, zj, shj, d, hjne, hjg, hrunT⟩ := crowd_recv_meets_some (P := X.P) (sl := sl) hg (by rw [hk0]; exact hcomm) hch hne (fun j k hjk => by
            obtain ⟨x, hx, hk⟩ := mem_partners.1 hjk
            rcases get_stand hx with ⟨_, rfl⟩ | ⟨hjc, hx'⟩
            · rw [offersAt_ph] at hk; cases hk
            cases hB.off hx' with
            | none h => rw [h] at hk; cases hk
            | main _ _ e => rw [e, offersAt_parked_recv'] at hk; cases hk
            | snd hi e hf hr e' =>
              rw [e', offersAt_parked_send, if_pos rfl] at hk
              simp at hk
              exact ⟨hk, hjc, _, _, _, _, by rw [hx', e']⟩
            | col _ e _ _ _ => exact absurd e hjc
            | colw _ e _ _ _ => exact absurd e hjc)
          have hofj : offersAt (parked gj #[scase X.Cm vj zj] shj) X.Cm true = [0] := by rw [offersAt_parked_send, if_pos rfl]
          obtain ⟨i, hi, hji, hfi, hri⟩ : ∃ i, i < V.j ∧ j = X.L + 1 + i ∧ (V.D i).fuel = 0 ∧ V.rem i ≠ [] := by
            cases hB.off hjg with
            | none h => rw [h] at hofj; cases hofj
            | main _ _ e => rw [e, offersAt_parked_recv'] at hofj; cases hofj
            | snd hi e hf hr _ => exact ⟨_, hi, e, hf, hr⟩
            | col _ e _ _ _ => exact absurd e hjne
            | colw _ e _ _ _ => exact absurd e hjne
          subst hji
          obtain ⟨g₀, v, z', vs, hgi, hrem, h7, hdf, hnext⟩ := hB.parkedS hi hfi hri
          have epk : parked gj #[scase X.Cm vj zj] shj = parked (core g₀) #[scase X.Cm v z'] .send := by rw [hjg] at hgi; exact Option.some.inj hgi
          obtain ⟨rfl, rfl, rfl⟩ : vj = v ∧ zj = z' ∧ shj = .send := by
            have := congrArg Goroutine.offers epk
            simp [parked, scase] at this
            exact ⟨this.1.1, this.1.2, this.2⟩
          have efin : gj.finishComm X.P #[scase X.Cm vj zj] .send 0 undef false = Conc.served (core g₀) undef := by
            rw [← finishComm_parked X.P gj #[scase X.Cm vj zj] #[scase X.Cm vj zj] .send .send, epk, finishComm_parked, finishComm_send]
          rw [efin, finishComm_recv] at hrunT
          have hA : Aside X.Cm w ((w.at d).setChan X.Cm 0 #[] false (s + 1) (r' + 1) false) := (Aside.at X.Cm w d).trans (Aside.put X.Cm (w.at d) _)
          have hRl : ∀ {x : Nat} {S : Nat → Prop}, (∀ b, S b → (V.cl b = .own x ∨ ∃ m, V.cl b = .ro m)) → Rl X.ty X.Wg S w ((w.at d).setChan X.Cm 0 #[] false (s + 1) (r' + 1) false) := fun hS =>
            ⟨hA.tape, hA.os, hA.output, by rw [hA.size]; exact Nat.le_refl _, fun b hb => hA.block b (fun e => by
              have h := hS b hb
              rw [e, hB.clM] at h
              rcases h with h | ⟨m, h⟩ <;> cases h), fun ⟨s1, s2, h⟩ => ⟨s1, s2, h.of_block (hA.block _ hB.neM.symm)⟩⟩
          obtain ⟨μ', h1, h2⟩ := meet (sl := sl) (w' := (w.at d).setChan X.Cm 0 #[] false (s + 1) (r' + 1) false) hRes hPoss hB hwg hm hl hi hc hcs hrem h7 hdf hA ⟨_, _, heap_setChan_self (w.at d) hch ..⟩
            (gs' := (gs.setIfInBounds (X.L + 1 + i) (Conc.served (core g₀) undef)).setIfInBounds (X.L + 1 + X.N) (Conc.served (core g) (recvd true vj true)))
            (fun k h1 h2 => by rw [Array.getElem?_setIfInBounds_ne (Ne.symm h2), Array.getElem?_setIfInBounds_ne (Ne.symm h1)]) (by simp)
            (by rw [Array.getElem?_setIfInBounds_ne (by omega), Array.getElem?_setIfInBounds_self_of_lt (lt_of_get hjg)])
            (by rw [Array.getElem?_setIfInBounds_self_of_lt (by simpa using hlt)])
            (hnext _ (hRl (x := X.L + 1 + i) fun b hb => hb.elim (fun ho => .inl (hB.oS i hi id b ho).1) fun hq => .inr ⟨_, (hB.clQ b hq).1.choose_spec.2⟩))
            (by rw [htl]; exact hval vj _ (hRl (x := X.L + 1 + X.N) fun b hb => hb.elim (fun ho => .inl (hB.oC hc id b ho).1) fun hq => .inr ⟨_, (hB.clS hc b hq).1.choose_spec.2⟩))
            (plain_meet (X := X) (c := X.Cm) (s := s) (r := r') (cap := 0) (fn := g.frame.fn) (pos := g.frame.place) (fn1 := gj.frame.fn) (p1 := gj.frame.place) (fn2 := (core g).frame.fn) (p2 := (core g).frame.place) (by omega) (by omega) (heap_lt hch) (X.L + 1 + X.N))
          exact ⟨_, _, μ', hrunT, h1, h2⟩
        · have hpart : partners (gs.setIfInBounds (X.L + 1 + X.N) ph) X.Cm true = [] :=
            noParts fun a x ha hx => (hB.off hx).sendM hB fun i hi _ hf hr => hex ⟨i, hi, hr, hf⟩
          have hrunT := crowd_waits (P := X.P) (sl := sl) hg (by rw [hk0]; exact hcomm) (fun cc hcc => by
            simp at hcc
            subst hcc
            exact ways_recv_none hch hpart)
          obtain ⟨μ', h1, h2⟩ := turnCo (g' := parked (core g) #[rcase X.Cm z] (.recv true)) (sl := sl) hRes hB hwg hm hq hl hc hg (c := 4) (f := 0) (by rw [htl]; exact .prk (fun w₁ h₁ => hstop w₁ h₁)) (plain_none (k := X.L + 1 + X.N) (fn := g.frame.fn) (pos := g.frame.place)) (.inr ⟨hcs.symm, by omega⟩) (.inl rfl) (fun h => absurd h (by decide))
            (fun _ _ i hi hr hf => hex ⟨i, hi, hr, hf⟩) (fun _ => by decide) (fun h => absurd h (by simp [hsh]))
          exact ⟨_, _, μ', hrunT, h1, h2⟩
    · obtain ⟨g', w', es, hgo, O', hD, hg'⟩ := hstep w (roRf _ _)
      exact .inl (stepCo hRes hB hwg hm hq hl hc hg hgo hD (by rw [hcs, htl]; exact .rcv hg') (by omega))
end
end Go.Proofs.YtmmjlngbiilagaaGreatDoor

/-
  A FAN-IN: the starter's ordinary steps: its own, and those of the library's books.
-/
namespace Go.Proofs.YtmmjlngbiilagaaGreatDoor
open Go Go.Conc
open Go.ConcR (KK wgBlock WgAt stA smA rd wr mk DC0 g_of_ofEvents ofEvent_mk)
open Go.ConcN (WgLive AtD4 WD CTag upd upd_same upd_ne sumTo sumTo_upd sumTo_congr le_sumTo get_map_set get_map_set_same norel_of RelBy RelBy.appOther RelBy.appNot RelBy.new Deaf_still Deaf_absent Vc cnt Vc_upd Vc_le OpenSt others_uncounted isW3 pend deafBehind_idle allQuit_of)

section
variable {X : Cx} {V : Vx} {gs gs' : Array Goroutine} {w w' : World} {sl : Option (Nat × Nat)} {t u : Trace} {st sm st' sm' : Int}

/-- AN ORDINARY STEP OF THE STARTER's. -/
theorem stepM (hRes : ResOk X) (hB : Bg X noH V gs w t) (hm : ConcN.Mode V.j V.D (toC V.tag) st sm) (hl : Lk X V)
    {g g' : Goroutine} (hg : gs[0]? = some g) {es : Array Event} {cl' : Nat → Cls} (hgo : stepG X.P true g w = .go g' w' es) (hE : Eff X V 0 w w' cl' (t ++ MemOp.ofEvents 0 g.frame.fn g.frame.place es))
    {tag' : MT} {f' d' : Nat} {O' : Nat → Prop} (hs : MSit X.P X.ty X.Wg X.Cm X.Q X.N X.vals X.Poss X.Full X.Res X.NextM X.tot tag' V.j f' d' O' V.S V.Cw g' w')
    (hfl : (V.hc = true ↔ hasC tag') ∧ (V.hw = true ↔ hasW tag') ∧ V.shut = isShut tag') (hd : deafBehind V.d0 es = d') (hO : ∀ b, O' b → cl' b = .own 0 ∧ b < w'.heap.size)
    (hwg' : WgAt X.ty X.Wg w' st' sm') (hm' : ConcN.Mode V.j V.D (toC tag') st' sm') (hacq : isPost tag' → AcqA X V.j (t ++ MemOp.ofEvents 0 g.frame.fn g.frame.place es))
    (hlt : phi X.N (Vc V.j V.D) tag' < phi X.N (Vc V.j V.D) V.tag ∨ (phi X.N (Vc V.j V.D) tag' = phi X.N (Vc V.j V.D) V.tag ∧ f' < V.f0)) (hex2 : tag' = .prw → V.cst ≠ 2) : Nxt X V gs w sl t 0 := by
  obtain ⟨tag₁, f₁, hB', hgk, hff, htag, _⟩ := (hB.less (H' := (· = 0)) (fun _ h => h.elim)).go (g' := g') hRes hg hE (hB.s7 hm) hl.c40
  obtain ⟨rfl, rfl⟩ := htag.resolve_right (fun h => h.1 rfl)
  have hrunT := runT_crowd_go (P := X.P) (sl := sl) (i := 0) hg (show stepG X.P (0 == 0) g w = _ from hgo)
  have hdt : Deaf (t ++ MemOp.ofEvents 0 g.frame.fn g.frame.place es) 0 = d' := by
    rw [Deaf_own, hB.dM id]; exact hd
  have hF := Bg.fillM (V := { V with cl := cl' }) (H' := noH) hB' (fun k _ => Classical.em _) hgk hs hfl hdt hO
  refine ⟨_, _, _, hrunT, ?_, _, w', sl, _, st', sm', rfl, hF, hwg', hm', hacq, ⟨hl.mrg, hl.cnt, hl.un, hl.jN, hl.nc, hl.c4, hl.sh, hl.ex1, hex2, hl.rn, hl.c40⟩, rfl⟩
  simp only [meas, wgt, fsum, osum]
  rcases hlt with h | ⟨h1, h2⟩
  · refine Prod.Lex.left _ _ ?_
    omega
  · rw [h1]
    refine Prod.Lex.right _ ?_
    omega

/-- A step of its book-keeping. -/
theorem bookM (hRes : ResOk X) (hB : Bg X noH V gs w t) (hm : ConcN.Mode V.j V.D (toC V.tag) st sm) (hl : Lk X V) (hns : V.shut = false)
    {g g' : Goroutine} (hg : gs[0]? = some g) {es : Array Event} (hgo : stepG X.P true g w = .go g' w' es) (hA : Aside X.Wg w w') (hwg' : WgAt X.ty X.Wg w' st' sm') (hes : ∀ e ∈ es, Bw X.Wg 0 e)
    {tag' : MT} {f' d' : Nat} (hs : MSit X.P X.ty X.Wg X.Cm X.Q X.N X.vals X.Poss X.Full X.Res X.NextM X.tot tag' V.j f' d' V.O V.S V.Cw g' w')
    (hfl : (hasC V.tag ↔ hasC tag') ∧ (hasW V.tag ↔ hasW tag') ∧ isShut V.tag = isShut tag') (hd : deafBehind V.d0 es = d')
    (hm' : ConcN.Mode V.j V.D (toC tag') st' sm') (hacq : isPost tag' → AcqA X V.j (t ++ MemOp.ofEvents 0 g.frame.fn g.frame.place es))
    (hlt : phi X.N (Vc V.j V.D) tag' < phi X.N (Vc V.j V.D) V.tag ∨ (phi X.N (Vc V.j V.D) tag' = phi X.N (Vc V.j V.D) V.tag ∧ f' < V.f0)) (hnp : tag' ≠ .prw) : Nxt X V gs w sl t 0 := by
  have hn : 0 < V.n := by have := lt_of_get hg; rwa [hB.sz] at this
  obtain ⟨f1, f2, f3⟩ := hB.fl id
  exact stepM hRes hB hm hl hg hgo (Eff.book hB (.inl rfl) hn hA hwg' hes fun _ h3 => (by rw [hl.sh h3] at hns; cases hns)) hs ⟨f1.trans hfl.1, f2.trans hfl.2.1, f3.trans hfl.2.2⟩ hd
    (fun b hb => ⟨(hB.oM id b hb).1, by rw [hA.size]; exact (hB.oM id b hb).2⟩) hwg' hm' hacq hlt (fun h => absurd h hnp)

/-- A step that neither turns the world nor lists anything. -/
theorem idleM (hRes : ResOk X) (hB : Bg X noH V gs w t) (hwg : WgAt X.ty X.Wg w st sm) (hm : ConcN.Mode V.j V.D (toC V.tag) st sm) (hq : isPost V.tag → AcqA X V.j t) (hl : Lk X V) (hns : V.shut = false)
    {g g' : Goroutine} (hg : gs[0]? = some g) (hgo : stepG X.P true g w = .go g' w #[]) {f' : Nat}
    (hs : MSit X.P X.ty X.Wg X.Cm X.Q X.N X.vals X.Poss X.Full X.Res X.NextM X.tot V.tag V.j f' V.d0 V.O V.S V.Cw g' w) (hf : f' < V.f0) (hnp : V.tag ≠ .prw) : Nxt X V gs w sl t 0 :=
  bookM hRes hB hm hl hns hg hgo (.refl X.Wg w) hwg bwNone hs ⟨Iff.rfl, Iff.rfl, rfl⟩ rfl hm (fun hp => (hq hp).app fun a r _ hr => hr.appOther g_of_ofEvents (by omega)) (.inr ⟨rfl, hf⟩) hnp

/-- A step of its own, with blocks of its own. -/
theorem ownM (hRes : ResOk X) (hB : Bg X noH V gs w t) (hwg : WgAt X.ty X.Wg w st sm) (hm : ConcN.Mode V.j V.D (toC V.tag) st sm) (hl : Lk X V) (hns : V.shut = false)
    {g g' : Goroutine} (hg : gs[0]? = some g) {es : Array Event} {O' : Nat → Prop} (hgo : stepG X.P true g w = .go g' w' es) (hD : DOx V.O O' X.Q w w' es) {f' : Nat}
    (hs : MSit X.P X.ty X.Wg X.Cm X.Q X.N X.vals X.Poss X.Full X.Res X.NextM X.tot V.tag V.j f' V.d0 O' V.S V.Cw g' w') (hf : f' < V.f0) (hnp : V.tag ≠ .prw) (hnpo : ¬ isPost V.tag) : Nxt X V gs w sl t 0 := by
  have hn : 0 < V.n := by have := lt_of_get hg; rwa [hB.sz] at this
  obtain ⟨cl', hE, hO', _⟩ := Eff.own (fn := g.frame.fn) (pos := g.frame.place) hB (.inl rfl) hn hD (hB.oM id) (fun b hb => ⟨⟨_, (hB.clQ b hb).1.choose_spec.2, .inl rfl⟩, (hB.clQ b hb).2⟩) (fun _ h3 _ => (by rw [hl.sh h3] at hns; cases hns))
  exact stepM hRes hB hm hl hg hgo hE hs (hB.fl id) (deaf_evP hD.ev _) hO' (hwg.of_block (hD.block _ (heap_lt hwg) fun ho => by have := (hB.oM id _ ho).1; rw [hB.clW] at this; cases this)) hm (fun hp => absurd hp hnpo) (.inr ⟨rfl, hf⟩) (fun h => absurd h hnp)

/-- A step that only reads. -/
theorem readM (hRes : ResOk X) (hB : Bg X noH V gs w t) (hwg : WgAt X.ty X.Wg w st sm) (hm : ConcN.Mode V.j V.D (toC V.tag) st sm) (hq : isPost V.tag → AcqA X V.j t) (hl : Lk X V) (hc : V.hc = true)
    {g g' : Goroutine} (hg : gs[0]? = some g) {es : Array Event} (hgo : stepG X.P true g w = .go g' w es) (hes : ∀ e ∈ es, EvP noO V.S e) {f' : Nat}
    (hs : MSit X.P X.ty X.Wg X.Cm X.Q X.N X.vals X.Poss X.Full X.Res X.NextM X.tot V.tag V.j f' V.d0 noO V.S V.Cw g' w) (hf : f' < V.f0) (hnp : V.tag ≠ .prw) : Nxt X V gs w sl t 0 := by
  have hn : 0 < V.n := by have := lt_of_get hg; rwa [hB.sz] at this
  have hD : DOx noO noO V.S w w es := ⟨rfl, rfl, rfl, Nat.le_refl _, fun _ _ _ => rfl, fun _ h => h.elim, fun e he => by
    have := hes e he
    revert this
    unfold EvP
    cases e.loc <;> simp [noO], fun _ _ _ _ h => h⟩
  obtain ⟨cl', hE, hO', _⟩ := Eff.own (fn := g.frame.fn) (pos := g.frame.place) hB (.inl rfl) hn hD (fun _ h => h.elim) (fun b hb => ⟨⟨_, (hB.clS hc b hb).1.choose_spec.2, .inl rfl⟩, (hB.clS hc b hb).2⟩) (fun _ _ _ => atRel_refl w)
  exact stepM hRes hB hm hl hg hgo hE hs (hB.fl id) (deaf_evP hD.ev _) hO' hwg hm (fun hp => (hq hp).app fun a r _ hr => hr.appOther g_of_ofEvents (by omega)) (.inr ⟨rfl, hf⟩) (fun h => absurd h hnp)

theorem kk_of {st : Int} {v : Nat} (h : st = ((v + 0 : Nat) : Int) * KK) : st = ((v : Nat) : Int) * KK := by simpa using h

/-- THE LOAD IN Wait. -/
theorem w1M (hRes : ResOk X) (hN : X.N < 2147483648) (hB : Bg X noH V gs w t) (hwg : WgAt X.ty X.Wg w st sm) (hm : ConcN.Mode V.j V.D (toC V.tag) st sm) (hq : isPost V.tag → AcqA X V.j t) (hl : Lk X V)
    {g : Goroutine} (hg : gs[0]? = some g) {Anch : Goroutine → World → Prop} {m : Nat} (hA : GoodA X.P X.ty X.Wg X.Cm X.NextM V.Cw V.S Anch) (hj : V.j = X.N) (hO : V.O = noO) (hd : V.d0 = 1)
    (htag : (V.tag = .w1 ∧ V.f0 = m) ∨ V.tag = .anch) (h : Goes X.P true (Rl X.ty X.Wg V.S) DC0 (W1 X.P X.ty X.Wg V.S (Tail X.P X.ty X.Wg X.Cm V.Cw V.S X.NextM) Anch) m g w) : Nxt X V gs w sl t 0 := by
  have hns : V.shut = false := by rw [(hB.fl id).2.2]; rcases htag with ⟨h, _⟩ | h <;> rw [h] <;> rfl
  have hop : ConcN.isOpen (toC V.tag) := by rcases htag with ⟨h, _⟩ | h <;> rw [h] <;> trivial
  have hpe : pend (toC V.tag) = 0 := by rcases htag with ⟨h, _⟩ | h <;> rw [h] <;> rfl
  have hph : 8 * Vc V.j V.D + 15 ≤ phi X.N (Vc V.j V.D) V.tag := by rcases htag with ⟨h, _⟩ | h <;> rw [h] <;> simp only [phi] <;> omega
  have hfl : ∀ tag', (hasC tag' ∧ hasW tag' ∧ isShut tag' = false) → (hasC V.tag ↔ hasC tag') ∧ (hasW V.tag ↔ hasW tag') ∧ isShut V.tag = isShut tag' := fun tag' ⟨h1, h2, h3⟩ => by
    rcases htag with ⟨h, _⟩ | h <;> rw [h] <;> exact ⟨⟨fun _ => h1, fun _ => trivial⟩, ⟨fun _ => h2, fun _ => trivial⟩, h3.symm⟩
  have hVj := Vc_le V.j V.D
  rcases Goes.cases h with hstop | ⟨m', rfl, hstep⟩
  · obtain ⟨_, hall⟩ := hstop w (Rl.refl w)
    obtain ⟨ho, rfl, rfl, _⟩ := hm.open_inv hop
    rw [hpe] at hwg hm
    obtain ⟨a', hgo, h0, hne⟩ := hall (Vc V.j V.D) (by omega) (by simpa using hwg)
    by_cases hv : Vc V.j V.D = 0
    · obtain ⟨m₂, hk⟩ := h0 hv
      refine bookM hRes hB hm hl hns hg hgo (.refl X.Wg w) hwg bw1r (tag' := .ke) (f' := m₂) (d' := 1) (by rw [hO, hj]; exact .ke hk) (hfl _ ⟨trivial, trivial, rfl⟩) (by rw [hd]; simp [deafBehind, rd]) ?_ (fun h => h.elim) (.inl (by simp only [phi] at hph ⊢; omega)) (by simp)
      have e : ((Vc V.j V.D + 0 : Nat) : Int) * KK = 0 := by rw [hv]; simp
      rw [e]
      exact .fin trivial (allQuit_of ho hv)
    · obtain ⟨m₂, hk⟩ := hne hv
      refine bookM hRes hB hm hl hns hg hgo (.refl X.Wg w) hwg bw1r (tag' := .w2 (Vc V.j V.D)) (f' := m₂) (d' := 1) (by rw [hO, hj]; rw [hj] at hk; exact .w2 hA hk) (hfl _ ⟨trivial, trivial, rfl⟩) (by rw [hd]; simp [deafBehind, rd]) ?_ (fun h => h.elim) (.inl (by simp only [phi] at hph ⊢; omega)) (by simp)
      exact hm.reopen hop trivial (by rw [hpe]; rfl) (fun vs e => by simp only [toC] at e; cases e; omega)
  · obtain ⟨a', w', es, hgo, ⟨rfl, rfl⟩, hg'⟩ := hstep w (Rl.refl w)
    refine bookM hRes hB hm hl hns hg hgo (.refl X.Wg _) hwg bwNone (tag' := .w1) (f' := m') (d' := 1) (by rw [hO, hj]; exact .w1 hA hg') (hfl _ ⟨trivial, trivial, rfl⟩) (by rw [hd]; rfl) ?_ (fun h => h.elim) ?_ (by simp)
    · exact hm.reopen hop trivial (by rw [hpe]; rfl) (fun vs e => by simp only [toC] at e; cases e)
    · rcases htag with ⟨h, h'⟩ | h
      · exact .inr ⟨by rw [h], by omega⟩
      · exact .inl (by rw [h]; simp only [phi]; omega)
end
end Go.Proofs.YtmmjlngbiilagaaGreatDoor

/-
  A FAN-IN: the starter starts a sender; it makes the channel for the collector; it starts the collector.
-/
namespace Go.Proofs.YtmmjlngbiilagaaGreatDoor
open Go Go.Conc
open Go.ConcR (KK wgBlock WgAt stA smA rd wr mk DC0 g_of_ofEvents ofEvent_mk)
open Go.ConcN (WgLive AtD4 WD CTag upd upd_same upd_ne sumTo sumTo_upd sumTo_upd_out sumTo_congr le_sumTo get_map_set get_map_set_same norel_of RelBy RelBy.appOther RelBy.appNot RelBy.new Deaf_still Deaf_absent Vc cnt Vc_upd Vc_le OpenSt others_uncounted isW3 pend deafBehind_idle allQuit_of)

section
variable {X : Cx} {V : Vx} {gs gs' : Array Goroutine} {w w' : World} {sl : Option (Nat × Nat)} {t u : Trace} {st sm st' sm' : Int}

theorem push_old {gs : Array Goroutine} {g' child : Goroutine} {k : Nat} (h0 : k ≠ 0) (hk : k < gs.size) : ((gs.setIfInBounds 0 g').push child)[k]? = gs[k]? := by
  rw [Array.getElem?_push, if_neg (by simp; omega), Array.getElem?_setIfInBounds_ne (Ne.symm h0)]
theorem push_zero {gs : Array Goroutine} {g' child : Goroutine} (hk : 0 < gs.size) : ((gs.setIfInBounds 0 g').push child)[0]? = some g' := by
  rw [Array.getElem?_push, if_neg (by simp; omega), Array.getElem?_setIfInBounds_self_of_lt hk]
theorem push_new {gs : Array Goroutine} {g' child : Goroutine} : ((gs.setIfInBounds 0 g').push child)[gs.size]? = some child := by
  rw [Array.getElem?_push, if_pos (by simp)]

/-- The two operations of a go statement. -/
def goOps (n : Nat) (fn fc : FuncId) (pos : String) : Trace := #[{ g := 0, fn := fn, pos := pos, act := .go n }, { g := n, fn := fc, pos := pos, act := .start }]

theorem goOps_nd {n : Nat} {fn fc : FuncId} {pos : String} : ∀ op ∈ goOps n fn fc pos, op.act ≠ .mark .disable ∧ op.act ≠ .mark .enable := by
  intro op h
  simp [goOps] at h
  rcases h with rfl | rfl <;> exact ⟨by simp, by simp⟩
theorem goOps_g {n k : Nat} {fn fc : FuncId} {pos : String} (h0 : k ≠ 0) (hn : k ≠ n) : ∀ op ∈ goOps n fn fc pos, op.g ≠ k := by
  intro op h
  simp [goOps] at h
  rcases h with rfl | rfl
  · exact Ne.symm h0
  · exact Ne.symm hn
theorem goOps_nr {n : Nat} {a : Addr} {fn fc : FuncId} {pos : String} : ∀ op ∈ goOps n fn fc pos, op.act ≠ .mark (.release a) := by
  intro op h
  simp [goOps] at h
  rcases h with rfl | rfl <;> simp

theorem goRun {P : Program} {g g' child : Goroutine} (hg : gs[0]? = some g) (hsp : stepG P true g w = .spawn g' child w #[]) :
    runT P (crowd gs w sl) 0 = (.next (crowd ((gs.setIfInBounds 0 g').push child) w sl), goOps gs.size g.frame.fn child.frame.fn g.frame.place) := by
  have := runT_crowd_spawn (P := P) (sl := sl) (i := 0) hg (show stepG P (0 == 0) g w = _ from hsp)
  rw [this]
  rfl

/-- A SENDER IS STARTED. -/
theorem spawnS (hB : Bg X noH V gs w t) (hwg : WgAt X.ty X.Wg w st sm) (hm : ConcN.Mode V.j V.D (toC V.tag) st sm) (hl : Lk X V)
    {g : Goroutine} (hg : gs[0]? = some g) {r : Nat} (htag : V.tag = .sp r 2) (hr : r < X.N) (hj : V.j = X.N - (r + 1)) (hd : V.d0 = 0)
    (h : AtGo X.P X.ty X.Wg X.Cm X.Q X.vals (X.N - (r + 1)) (Sp X.P X.ty X.Wg X.Cm X.Q X.N X.vals X.Poss X.Full X.Res X.NextM X.tot r) V.O g w) : Nxt X V gs w sl t 0 := by
  classical
  obtain ⟨_, g', child, O', Oc, hsp, hcr, hO', hOc, hdis, hsnd, hnext⟩ := h
  obtain ⟨f1, f2, f3⟩ := hB.fl id
  have hc : V.hc = false := by
    cases e : V.hc with
    | false => rfl
    | true => have := f1.1 e; rw [htag] at this; exact this.elim
  have hw : V.hw = false := by
    cases e : V.hw with
    | false => rfl
    | true => have := f2.1 e; rw [htag] at this; exact this.elim
  have hsh : V.shut = false := by rw [f3, htag]; rfl
  have hn := hB.nJ hc
  have hsz := hB.sz
  have hlt := lt_of_get hg
  have hrunT := goRun (P := X.P) (sl := sl) hg hsp
  rw [hsz] at hrunT
  rw [← hj] at hsnd
  obtain ⟨f, hsit, _⟩ := snd_sit hsnd
  obtain ⟨hur, hus, huf⟩ := hl.un V.j (Nat.le_refl _) (by omega)
  generalize hcl : (fun b => if Oc b then Cls.own V.n else V.cl b) = cl'
  have hcl1 : ∀ b, cl' b = V.cl b ∨ (V.cl b = .own 0 ∧ (cl' b = .own V.n ∨ ∃ k, V.n ≤ k ∧ cl' b = .ro k)) := fun b => by
    subst hcl
    by_cases e : Oc b
    · exact .inr ⟨(hB.oM id b (hOc b e)).1, .inl (by simp [e])⟩
    · exact .inl (by simp [e])
  have keep : ∀ {b : Nat} {c : Cls}, V.cl b = c → c ≠ .own 0 → cl' b = c := fun {b c} h hne => by
    rcases hcl1 b with e | ⟨e, _⟩
    · rw [e, h]
    · rw [h] at e; exact absurd e hne
  have hOcn : ∀ b, Oc b → cl' b = .own V.n := fun b hb => by subst hcl; simp [hb]
  have hO'0 : ∀ b, O' b → cl' b = .own 0 := fun b hb => by
    subst hcl
    have : ¬ Oc b := fun h => hdis b h hb
    simp only [this, if_false]
    exact (hB.oM id b (hO' b hb)).1
  generalize hu : goOps V.n g.frame.fn child.frame.fn g.frame.place = u at hrunT
  have hund : ∀ op ∈ u, op.act ≠ .mark .disable ∧ op.act ≠ .mark .enable := by subst hu; exact goOps_nd
  have hug : ∀ k, k ≠ 0 → k ≠ V.n → ∀ op ∈ u, op.g ≠ k := fun k h0 hn => by subst hu; exact goOps_g h0 hn
  have hdf : ∀ k, Deaf (t ++ u) k = Deaf t k := fun k => Deaf_still t k u hund
  have hnew : Deaf t V.n = 0 := Deaf_absent fun i op hi e => by have := hB.ti.gs op (mem_of_getElem? hi); omega
  have hti : TI X.Shun cl' X.Wg X.L (V.n + 1) w.heap.size (t ++ u) := by
    subst hu
    exact hB.ti.fork (x := { g := 0, fn := g.frame.fn, pos := g.frame.place, act := .go V.n }) (y := { g := V.n, fn := child.frame.fn, pos := g.frame.place, act := .start }) ⟨rfl, rfl⟩ ⟨rfl, rfl⟩ ((hB.dM id).trans hd) (by omega) (by omega) hcl1
  have hnor : NoRelease (stA X.Wg) (t ++ u) := hB.nor.app (by subst hu; exact goOps_nr)
  have hB1 : Bg X (· = 0) { V with j := V.j + 1, n := V.n + 1, D := upd V.D V.j ⟨7, f, 0⟩, OS := upd V.OS V.j Oc, cl := cl' } ((gs.setIfInBounds 0 g').push child) w (t ++ u) := by
    refine ⟨by simp [hsz], fun h => (by simp only [hc] at h; cases h), fun _ => (by simp only; omega), fun h => (by simp only [hc] at h; cases h), fun h => absurd rfl h, fun h => absurd rfl h, fun h => absurd rfl h, fun h => absurd rfl h,
      fun i x _ h0 hL hx => ?_, fun i hi _ => ?_, fun i hi _ => ?_, fun i hi _ h6 => ?_, fun i hi _ b hb => ?_, fun h => (by simp only [hc] at h; cases h), fun h => (by simp only [hc] at h; cases h), fun h => (by simp only [hc] at h; cases h), hti, hnor,
      keep hB.clW (by simp), keep hB.clM (by simp), hB.neM, fun b hb => ?_, fun h => (by simp only [hc] at h; cases h), hB.live, hB.chm, fun h => (by simp only [hw] at h; cases h), ⟨hB.kd.kd, fun b k h => (hcl1 b).elim (fun e => hB.kd.ow b k (e ▸ h)) fun e => hB.kd.ow b 0 e.1, hB.kd.nb, hB.kd.wB, fun b hb => by
        obtain ⟨h1, h2, h3⟩ := hB.kd.dead b hb
        exact ⟨keep h1 (by simp), h2, h3⟩⟩⟩
    · rw [push_old (by omega) (by omega)] at hx
      rw [hdf i]
      exact hB.old i x id h0 hL hx
    · by_cases e : i = V.j
      · subst e
        refine ⟨child, ?_, ?_⟩
        · rw [← hn, ← hsz]; exact push_new
        · simp only [Cx.ss, upd_same, hur]; exact hsit
      · obtain ⟨x, hx, hs⟩ := hB.snd i (by simp only at hi; omega) id
        refine ⟨x, ?_, ?_⟩
        · rw [push_old (by omega) (lt_of_get hx)]; exact hx
        · simp only [Cx.ss, upd_ne _ _ e] at hs ⊢; exact hs
    · rw [hdf]
      by_cases e : i = V.j
      · subst e; simp only [upd_same]; rw [← hn]; exact hnew
      · simp only [upd_ne _ _ e]; exact hB.dS i (by simp only at hi; omega) id
    · by_cases e : i = V.j
      · subst e; simp only [upd_same] at h6; omega
      · simp only [upd_ne _ _ e] at h6
        obtain ⟨r, hr⟩ := hB.rel i (by simp only at hi; omega) id h6
        exact ⟨r, hr.appNot (hug _ (by omega) (by omega))⟩
    · by_cases e : i = V.j
      · subst e; simp only [upd_same] at hb
        exact ⟨by rw [← hn]; exact hOcn b hb, (hB.oM id b (hOc b hb)).2⟩
      · simp only [upd_ne _ _ e] at hb
        obtain ⟨h1, h2⟩ := hB.oS i (by simp only at hi; omega) id b hb
        exact ⟨keep h1 (by simp), h2⟩
    · obtain ⟨⟨k, h1, h2⟩, h3⟩ := hB.clQ b hb
      exact ⟨⟨k, h1, keep h2 (by simp)⟩, h3⟩
  have hdt : Deaf (t ++ u) 0 = 0 := (hdf 0).trans ((hB.dM id).trans hd)
  have hO1 : ∀ b, O' b → cl' b = .own 0 ∧ b < w.heap.size := fun b hb => ⟨hO'0 b hb, (hB.oM id b (hO' b hb)).2⟩
  have hcn : Vc (V.j + 1) (upd V.D V.j ⟨7, f, 0⟩) = Vc V.j V.D + 1 := by
    simp only [Vc, sumTo, upd_same]
    rw [sumTo_upd_out V.D _ cnt (Nat.le_refl _)]; rfl
  have hwgt : sumTo X.N (fun a => (upd V.D V.j ⟨7, f, 0⟩ a).stage + (V.rem a).length) = sumTo X.N (fun a => (V.D a).stage + (V.rem a).length) := sumTo_congr fun a _ => by
    by_cases e : a = V.j
    · subst e; rw [upd_same, hus]
    · rw [upd_ne _ _ e]
  have hLk : ∀ (tag' : MT) (f' d' : Nat) (O'' : Nat → Prop), tag' ≠ .prw → Lk X { V with j := V.j + 1, n := V.n + 1, D := upd V.D V.j ⟨7, f, 0⟩, OS := upd V.OS V.j Oc, cl := cl', tag := tag', f0 := f', d0 := d', O := O'' } := fun tag' f' d' O'' hnp => by
    refine ⟨hl.mrg, hl.cnt, fun a ha hN => ?_, (by simp only; omega), hl.nc, hl.c4, hl.sh, fun h => (by simp only [hc] at h; cases h), fun h => absurd h hnp, fun a ha h7 => ?_, fun h => (by simp only [hsh] at h; cases h)⟩
    · have hne : a ≠ V.j := by simp only at ha; omega
      simp only [upd_ne _ _ hne]
      exact hl.un a (by simp only at ha; omega) hN
    · by_cases e : a = V.j
      · subst e; simp only [upd_same] at h7; exact absurd rfl h7
      · simp only [upd_ne _ _ e] at h7; exact hl.rn a (by simp only at ha; omega) h7
  rw [htag] at hm
  obtain ⟨ho, rfl, rfl, _⟩ := hm.open_inv trivial
  have ho' : OpenSt (V.j + 1) (upd V.D V.j ⟨7, f, 0⟩) := fun a ha => by
    by_cases e : a = V.j
    · subst e; rw [upd_same]; simp
    · rw [upd_ne _ _ e]; exact ho a (by omega)
  have est : ((Vc V.j V.D + pend (toC (.sp r 2)) : Nat) : Int) * KK = ((Vc (V.j + 1) (upd V.D V.j ⟨7, f, 0⟩) + 0 : Nat) : Int) * KK := by rw [hcn]; rfl
  have hmode : ∀ ct, ConcN.isOpen ct → pend ct = 0 → (∀ vs, ct ≠ .w2 vs) → ConcN.Mode (V.j + 1) (upd V.D V.j ⟨7, f, 0⟩) ct (((Vc V.j V.D + pend (toC (.sp r 2)) : Nat) : Int) * KK) 0 := fun ct h1 h2 h3 => by
    have := ConcN.Mode.opn h1 ho' (fun vs e => absurd e (h3 vs))
    rw [h2] at this
    rw [est]
    exact this
  cases r with
  | zero =>
    obtain ⟨m, hk⟩ := hnext
    have ej : V.j + 1 = X.N := by omega
    have hF := Bg.fillM (V := { V with j := V.j + 1, n := V.n + 1, D := upd V.D V.j ⟨7, f, 0⟩, OS := upd V.OS V.j Oc, cl := cl' }) (H' := noH) hB1 (fun k _ => Classical.em _) (push_zero hlt) (tag' := .gc 2) (f' := m) (d' := 0) (O' := O') (by simp only [ej]; exact .gmk hk)
      ⟨by simp [hc, hasC], by simp [hw, hasW], hsh⟩ hdt hO1
    refine ⟨_, _, _, hrunT, ?_, _, w, sl, _, _, _, rfl, hF, hwg, hmode .kd trivial rfl (by simp), fun h => h.elim, hLk _ _ _ _ (by simp), rfl⟩
    simp only [meas, wgt, fsum, osum, hwgt, htag, phi]
    refine Prod.Lex.left _ _ ?_
    omega
  | succ r =>
    obtain ⟨m, hk⟩ := hnext
    have ej : V.j + 1 = X.N - (r + 1) := by omega
    have hF := Bg.fillM (V := { V with j := V.j + 1, n := V.n + 1, D := upd V.D V.j ⟨7, f, 0⟩, OS := upd V.OS V.j Oc, cl := cl' }) (H' := noH) hB1 (fun k _ => Classical.em _) (push_zero hlt) (tag' := .sp r 6) (f' := m) (d' := 0) (O' := O') (by simp only [ej]; exact .skd (by omega) hk)
      ⟨by simp [hc, hasC], by simp [hw, hasW], hsh⟩ hdt hO1
    refine ⟨_, _, _, hrunT, ?_, _, w, sl, _, _, _, rfl, hF, hwg, hmode (.sp r 5) trivial rfl (by simp), fun h => h.elim, hLk _ _ _ _ (by simp), rfl⟩
    simp only [meas, wgt, fsum, osum, hwgt, htag, phi]
    refine Prod.Lex.left _ _ ?_
    omega

/-- THE COLLECTOR IS STARTED. -/
theorem spawnC (hB : Bg X noH V gs w t) (hwg : WgAt X.ty X.Wg w st sm) (hm : ConcN.Mode V.j V.D (toC V.tag) st sm) (hl : Lk X V)
    {g : Goroutine} (hg : gs[0]? = some g) (htag : V.tag = .gc 1) (hj : V.j = X.N) (hd : V.d0 = 0)
    (h : AtGc X.P X.ty X.Wg X.Cm X.Q X.Poss X.Full X.Res X.NextM V.Cw X.tot V.O g w) : Nxt X V gs w sl t 0 := by
  classical
  obtain ⟨_, g', child, b9, hsp, hcr, hb9, hrcv, Anch, hAr, hAn, m, hkd⟩ := h
  obtain ⟨f1, f2, f3⟩ := hB.fl id
  have hc : V.hc = false := by
    cases e : V.hc with
    | false => rfl
    | true => have := f1.1 e; rw [htag] at this; exact this.elim
  have hw : V.hw = true := f2.2 (by rw [htag]; exact rfl)
  have hsh : V.shut = false := by rw [f3, htag]; rfl
  have hn := hB.nJ hc
  have hsz := hB.sz
  have hlt := lt_of_get hg
  have hrunT := goRun (P := X.P) (sl := sl) hg hsp
  rw [hsz] at hrunT
  obtain ⟨hcst, hcfu, hnil⟩ := hl.nc hc
  obtain ⟨f, hrc⟩ := (rcv_iff _ _ _ _ _ _ _ _ _ _ _ _ _ _).1 hrcv
  generalize hcl : (fun b => if b = b9 then Cls.ro V.n else V.cl b) = cl'
  have hcl1 : ∀ b, cl' b = V.cl b ∨ (V.cl b = .own 0 ∧ (cl' b = .own V.n ∨ ∃ k, V.n ≤ k ∧ cl' b = .ro k)) := fun b => by
    subst hcl
    by_cases e : b = b9
    · subst e; exact .inr ⟨(hB.oM id b hb9).1, .inr ⟨V.n, Nat.le_refl _, by simp⟩⟩
    · exact .inl (by simp [e])
  have keep : ∀ {b : Nat} {c : Cls}, V.cl b = c → c ≠ .own 0 → cl' b = c := fun {b c} h hne => by
    rcases hcl1 b with e | ⟨e, _⟩
    · rw [e, h]
    · rw [h] at e; exact absurd e hne
  have hb9n : cl' b9 = .ro V.n := by subst hcl; simp
  generalize hu : goOps V.n g.frame.fn child.frame.fn g.frame.place = u at hrunT
  have hund : ∀ op ∈ u, op.act ≠ .mark .disable ∧ op.act ≠ .mark .enable := by subst hu; exact goOps_nd
  have hug : ∀ k, k ≠ 0 → k ≠ V.n → ∀ op ∈ u, op.g ≠ k := fun k h0 hn => by subst hu; exact goOps_g h0 hn
  have hdf : ∀ k, Deaf (t ++ u) k = Deaf t k := fun k => Deaf_still t k u hund
  have hnew : Deaf t V.n = 0 := Deaf_absent fun i op hi e => by have := hB.ti.gs op (mem_of_getElem? hi); omega
  have hti : TI X.Shun cl' X.Wg X.L (V.n + 1) w.heap.size (t ++ u) := by
    subst hu
    exact hB.ti.fork (x := { g := 0, fn := g.frame.fn, pos := g.frame.place, act := .go V.n }) (y := { g := V.n, fn := child.frame.fn, pos := g.frame.place, act := .start }) ⟨rfl, rfl⟩ ⟨rfl, rfl⟩ ((hB.dM id).trans hd) (by omega) (by omega) hcl1
  have hnor : NoRelease (stA X.Wg) (t ++ u) := hB.nor.app (by subst hu; exact goOps_nr)
  have enN : V.n = X.L + 1 + X.N := by omega
  have hB1 : Bg X (· = 0) { V with hc := true, n := V.n + 1, S := fun b => X.Q b ∨ b = b9, l := [], cst := 4, cfu := f + 1, OC := noO, cl := cl' } ((gs.setIfInBounds 0 g').push child) w (t ++ u) := by
    refine ⟨by simp [hsz], fun _ => ⟨by simp only; omega, hj⟩, fun h => (by cases h), fun _ => hw, fun h => absurd rfl h, fun h => absurd rfl h, fun h => absurd rfl h, fun h => absurd rfl h,
      fun i x _ h0 hL hx => ?_, fun i hi _ => ?_, fun i hi _ => ?_, fun i hi _ h6 => ?_, fun i hi _ b hb => ?_, fun _ _ => ⟨child, ?_, ?_⟩, fun _ _ => ?_, fun _ _ _ h => h.elim, hti, hnor,
      keep hB.clW (by simp), keep hB.clM (by simp), hB.neM, fun b hb => ?_, fun _ b hb => ?_, hB.live, hB.chm, fun h => ?_, ⟨hB.kd.kd, fun b k h => (hcl1 b).elim (fun e => hB.kd.ow b k (e ▸ h)) fun e => hB.kd.ow b 0 e.1, hB.kd.nb, hB.kd.wB, fun b hb => by
        obtain ⟨h1, h2, h3⟩ := hB.kd.dead b hb
        exact ⟨keep h1 (by simp), h2, h3⟩⟩⟩
    · rw [push_old (by omega) (by omega)] at hx
      rw [hdf i]
      exact hB.old i x id h0 hL hx
    · obtain ⟨x, hx, hs⟩ := hB.snd i hi id
      exact ⟨x, by rw [push_old (by omega) (lt_of_get hx)]; exact hx, hs⟩
    · rw [hdf]; exact hB.dS i hi id
    · obtain ⟨r, hr⟩ := hB.rel i hi id h6
      exact ⟨r, hr.appNot (hug _ (by omega) (by simp only at hi; omega))⟩
    · obtain ⟨h1, h2⟩ := hB.oS i hi id b hb
      exact ⟨keep h1 (by simp), h2⟩
    · rw [← enN, ← hsz]; exact push_new
    · exact .rcv hrc
    · rw [hdf, ← enN]; exact hnew
    · obtain ⟨⟨k, h1, h2⟩, h3⟩ := hB.clQ b hb
      exact ⟨⟨k, h1, keep h2 (by simp)⟩, h3⟩
    · rcases hb with hb | rfl
      · obtain ⟨⟨k, h1, h2⟩, h3⟩ := hB.clQ b hb
        exact ⟨⟨k, by omega, keep h2 (by simp)⟩, h3⟩
      · exact ⟨⟨V.n, by omega, hb9n⟩, (hB.oM id _ hb9).2⟩
    · obtain ⟨h1, h2, h3, h4⟩ := hB.chw hw
      exact ⟨keep h1 (by simp), h2, h3, h4⟩
  have hdt : Deaf (t ++ u) 0 = 0 := (hdf 0).trans ((hB.dM id).trans hd)
  have hF := Bg.fillM (V := { V with hc := true, n := V.n + 1, S := fun b => X.Q b ∨ b = b9, l := [], cst := 4, cfu := f + 1, OC := noO, cl := cl' }) (H' := noH) hB1 (fun k _ => Classical.em _) (push_zero hlt) (tag' := .kd) (f' := m) (d' := 0) (O' := noO) (by simp only [hj]; exact .kd ⟨hAr, hAn⟩ hkd)
    ⟨by simp [hasC], by simp [hw, hasW], hsh⟩ hdt (fun _ h => h.elim)
  rw [htag] at hm
  refine ⟨_, _, _, hrunT, ?_, _, w, sl, _, _, _, rfl, hF, hwg, hm.reopen trivial trivial rfl (by simp [toC]), fun h => h.elim, ?_, rfl⟩
  · simp only [meas, wgt, fsum, osum, htag, phi, hcst]
    refine Prod.Lex.left _ _ ?_
    omega
  · refine ⟨by rw [← hnil]; exact hl.mrg, by rw [← hnil]; exact hl.cnt, hl.un, hl.jN, fun h => (by cases h), .inl rfl, fun h => absurd (show 4 ≤ 3 from h) (by decide), fun _ _ h => absurd (show f + 1 = 0 from h) (by omega), fun h => (by cases h), hl.rn, fun _ _ _ => (show f + 1 ≠ 0 by omega)⟩

/-- THE CHANNEL OF THE COLLECTOR's IS MADE. -/
theorem mkW (hRes : ResOk X) (hB : Bg X noH V gs w t) (hwg : WgAt X.ty X.Wg w st sm) (hm : ConcN.Mode V.j V.D (toC V.tag) st sm) (hl : Lk X V)
    {g : Goroutine} (hg : gs[0]? = some g) (htag : V.tag = .gc 2) (hj : V.j = X.N) (hd : V.d0 = 0)
    (h : AtMk X.P X.ty X.Wg X.Cm X.Q X.Poss X.Full X.Res X.NextM X.tot V.O g w) : Nxt X V gs w sl t 0 := by
  obtain ⟨_, g', hgo, m, hk⟩ := h
  obtain ⟨f1, f2, f3⟩ := hB.fl id
  have hc : V.hc = false := by
    cases e : V.hc with
    | false => rfl
    | true => have := f1.1 e; rw [htag] at this; exact this.elim
  have hw : V.hw = false := by
    cases e : V.hw with
    | false => rfl
    | true => have := f2.1 e; rw [htag] at this; cases this
  have hsh : V.shut = false := by rw [f3, htag]; rfl
  have hn : 0 < V.n := by have := lt_of_get hg; rwa [hB.sz] at this
  generalize hw' : ({ w with heap := w.heap.push (.chan 0 #[] false 0 0 false) } : World) = w' at hgo hk
  have hsz' : w'.heap.size = w.heap.size + 1 := by subst hw'; simp
  have hold : ∀ b, b < w.heap.size → w'.heap[b]? = w.heap[b]? := fun b hb => by subst hw'; simp [Array.getElem?_push, Nat.ne_of_lt hb]
  have hnewb : w'.heap[w.heap.size]? = some (.chan 0 #[] false 0 0 false) := by subst hw'; simp
  have hD : DOx V.O V.O X.Q w w' #[] := ⟨by subst hw'; rfl, by subst hw'; rfl, by subst hw'; rfl, by omega, fun b hb _ => hold b hb, fun b hb => .inl hb, by simp, fun N B _ _ hB => by subst hw'; exact hB.alloc (o := .chan 0 #[] false 0 0 false) trivial⟩
  obtain ⟨cl', hE, hO', hnew⟩ := Eff.own (fn := g.frame.fn) (pos := g.frame.place) hB (.inl rfl) hn hD (hB.oM id) (fun b hb => ⟨⟨_, (hB.clQ b hb).1.choose_spec.2, .inl rfl⟩, (hB.clQ b hb).2⟩) (fun h => (by rw [hc] at h; cases h))
  have hclw : cl' w.heap.size = .sh := hnew _ (Nat.le_refl _) (by omega) (fun ho => by have := (hB.oM id _ ho).2; omega)
  obtain ⟨tag₁, f₁, hB', hgk, hff, hta, _⟩ := (hB.less (H' := (· = 0)) (fun _ h => h.elim)).go (g' := g') hRes hg hE (hB.s7 hm) hl.c40
  obtain ⟨rfl, rfl⟩ := hta.resolve_right (fun h => h.1 rfl)
  have hrunT := runT_crowd_go (P := X.P) (sl := sl) (i := 0) hg (show stepG X.P (0 == 0) g w = _ from hgo)
  have hdt : Deaf (t ++ MemOp.ofEvents 0 g.frame.fn g.frame.place #[]) 0 = 0 := by
    rw [Deaf_own, hB.dM id, hd]; rfl
  have hB2 : Bg X (· = 0) { V with hw := true, Cw := w.heap.size, cl := cl' } ((gs.map (woken X.P g g' w')).setIfInBounds 0 g') w' (t ++ MemOp.ofEvents 0 g.frame.fn g.frame.place #[]) :=
    ⟨hB'.sz, hB'.nC, hB'.nJ, fun _ => rfl, fun h => absurd rfl h, fun h => absurd rfl h, fun h => absurd rfl h, fun h => absurd rfl h, hB'.old, hB'.snd, hB'.dS, hB'.rel, hB'.oS, fun h => (by simp only [hc] at h; cases h), hB'.dC, hB'.oC, hB'.ti, hB'.nor, hB'.clW, hB'.clM, hB'.neM, hB'.clQ, hB'.clS, hB'.live, hB'.chm,
      fun _ => ⟨hclw, fun e => by have := heap_lt hwg; simp only at e; omega, fun e => by
        obtain ⟨_, _, h⟩ := hB.chm
        have := heap_lt h; simp only at e; omega, 0, hnewb⟩, hB'.kd⟩
  have hF := Bg.fillM (V := { V with hw := true, Cw := w.heap.size, cl := cl' }) (H' := noH) hB2 (fun k _ => Classical.em _) hgk (tag' := .gc 1) (f' := m) (d' := 0) (O' := V.O) (by simp only [hj]; exact .ggc hk)
    ⟨by simp [hc, hasC], by simp [hasW], hsh⟩ hdt hO'
  rw [htag] at hm
  refine ⟨_, _, _, hrunT, ?_, _, w', sl, _, _, _, rfl, hF, hwg.of_block (hold _ (heap_lt hwg)), hm, fun h => h.elim, ?_, rfl⟩
  · simp only [meas, wgt, fsum, osum, htag, phi]
    refine Prod.Lex.left _ _ ?_
    omega
  · exact ⟨hl.mrg, hl.cnt, hl.un, hl.jN, hl.nc, hl.c4, hl.sh, hl.ex1, fun h => (by cases h), hl.rn, hl.c40⟩
end
end Go.Proofs.YtmmjlngbiilagaaGreatDoor
