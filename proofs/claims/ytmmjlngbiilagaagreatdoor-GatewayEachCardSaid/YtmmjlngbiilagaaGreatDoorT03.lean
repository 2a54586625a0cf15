/-
  A FAN-IN: whatever step of a sender's that runs keeps the invariant and lowers the measure.
-/
import Derived.Test.YtmmjlngbiilagaaGreatDoorT02
import Derived.Conc.Token

namespace Go.Proofs.YtmmjlngbiilagaaGreatDoor
open Go Go.Conc
open Go.ConcR (KK wgBlock WgAt stA smA rd wr mk DC0 g_of_ofEvents)
open Go.ConcN (WgLive AtD4 WD CTag upd upd_same upd_ne sumTo sumTo_upd sumTo_congr le_sumTo get_map_set get_map_set_same norel_of RelBy RelBy.appOther RelBy.appNot RelBy.new Deaf_still Vc cnt Vc_upd Vc_le OpenSt others_uncounted isW3 pend deafBehind_idle)

section
variable {X : Cx} {V : Vx} {gs : Array Goroutine} {w w' : World} {sl : Option (Nat × Nat)} {t : Trace} {st sm : Int}

theorem deaf_evP {O Q : Nat → Prop} {es : Array Event} (h : ∀ e ∈ es, EvP O Q e) (d : Nat) : deafBehind d es = d := by
  refine deafBehind_idle (fun e he => ?_) d
  have := h e he
  obtain ⟨loc, a, b⟩ := e
  cases loc with
  | mark m => have hm : m = .noRoom := this; subst hm; simp
  | _ => simp

theorem norel_evP {O Q : Nat → Prop} {es : Array Event} {a : Addr} (h : ∀ e ∈ es, EvP O Q e) : ∀ e ∈ es, e.loc ≠ .mark (.release a) := fun e he => by
  have := h e he
  obtain ⟨loc, x, y⟩ := e
  cases loc with
  | mark m => have hm : m = .noRoom := this; subst hm; simp
  | _ => simp

/-- What an own step is to the machine's state. -/
theorem Eff.own {O O' Qk : Nat → Prop} {k : Nat} {es : Array Event} {fn : FuncId} {pos : String} (hB : Bg X noH V gs w t) (hk : k = 0 ∨ X.L < k) (hkn : k < V.n) (hD : DOx O O' Qk w w' es)
    (hO : ∀ b, O b → V.cl b = .own k ∧ b < w.heap.size) (hQ : ∀ b, Qk b → (∃ m, V.cl b = .ro m ∧ (k = 0 ∨ m ≤ k)) ∧ b < w.heap.size) (hst : V.hc = true → V.cst ≤ 3 → k ≠ X.L + 1 + X.N → AtRel w w') :
    ∃ cl' : Nat → Cls, Eff X V k w w' cl' (t ++ MemOp.ofEvents k fn pos es) ∧ (∀ b, O' b → cl' b = .own k ∧ b < w'.heap.size) ∧ (∀ b, w.heap.size ≤ b → b < w'.heap.size → ¬ O' b → cl' b = .sh) := by
  obtain ⟨cl', h1, h2, h3, h4⟩ := ti_own (X := X) (fn := fn) (pos := pos) hB.ti hk hkn hD hO hQ
  have sh_same : ∀ {b : Nat}, V.cl b = .sh → b < w.heap.size → w'.heap[b]? = w.heap[b]? := fun hs hl => hD.block _ hl fun ho => by
    rw [(hO _ ho).1] at hs; cases hs
  refine ⟨cl', ⟨hD.tape, hD.os, hD.output, hD.size, fun b hl hne _ => hD.block b hl fun ho => hne (hO b ho).1, ?_, h1, h4, hB.nor.app (norel_of (norel_evP hD.ev)), ?_, fun hw => ?_, hst, hD.kd _ _ (fun b hb => hB.kd.ow b k (hO b hb).1) (fun b hb => hB.kd.nb b (Nat.le_trans hB.kd.wB (Nat.le_trans (Nat.le_of_lt (by obtain ⟨_, _, h⟩ := hB.live; exact heap_lt h)) hb))) hB.kd.kd⟩, h2, h3⟩
  · obtain ⟨s1, s2, h⟩ := hB.live
    exact ⟨s1, s2, h.of_block (sh_same hB.clW (heap_lt h))⟩
  · obtain ⟨s, r, h⟩ := hB.chm
    exact ⟨s, r, (sh_same hB.clM (heap_lt h)).trans h⟩
  · obtain ⟨h1, _, _, s, h⟩ := hB.chw hw
    exact ⟨s, (sh_same h1 (heap_lt h)).trans h⟩

theorem bw2 {k Wg : Nat} : ∀ e ∈ #[rd (stA Wg), wr (stA Wg)], Bw Wg k e := by
  intro e he
  simp at he
  rcases he with rfl | rfl
  · exact .inr (.inr (.inr (.inr (.inl ⟨_, _, rfl, rfl⟩))))
  · exact .inr (.inr (.inr (.inr (.inl ⟨_, _, rfl, rfl⟩))))
theorem bw1r {k Wg : Nat} : ∀ e ∈ #[rd (stA Wg)], Bw Wg k e := by
  intro e he
  simp at he
  subst he
  exact .inr (.inr (.inr (.inr (.inl ⟨_, _, rfl, rfl⟩))))
theorem bw1w {k Wg : Nat} : ∀ e ∈ #[wr (stA Wg)], Bw Wg k e := by
  intro e he
  simp at he
  subst he
  exact .inr (.inr (.inr (.inr (.inl ⟨_, _, rfl, rfl⟩))))
theorem bwSem {k Wg : Nat} : ∀ e ∈ semEvents (smA Wg), Bw Wg k e := by
  intro e he
  simp [semEvents] at he
  rcases he with rfl | rfl | rfl | rfl
  · exact .inl rfl
  · exact .inr (.inr (.inr (.inr (.inl ⟨_, _, rfl, rfl⟩))))
  · exact .inr (.inr (.inr (.inr (.inl ⟨_, _, rfl, rfl⟩))))
  · exact .inr (.inl rfl)
theorem bwDis {k Wg : Nat} : ∀ e ∈ #[mk .disable], Bw Wg k e := by intro e he; simp at he; subst he; exact .inl rfl
theorem bwEn {k Wg : Nat} : ∀ e ∈ #[mk .enable], Bw Wg k e := by intro e he; simp at he; subst he; exact .inr (.inl rfl)
theorem bwRel {k Wg : Nat} : ∀ e ∈ #[mk (.releaseMerge (stA Wg))], Bw Wg k e := by intro e he; simp at he; subst he; exact .inr (.inr (.inl rfl))
theorem bwAcq {k Wg : Nat} : ∀ e ∈ #[mk (.acquire (stA Wg))], Bw Wg k e := by intro e he; simp at he; subst he; exact .inr (.inr (.inr (.inl rfl)))
theorem bwRd {Wg : Nat} : ∀ e ∈ #[mk (.read (smA Wg))], Bw Wg 0 e := by intro e he; simp at he; subst he; exact .inr (.inr (.inr (.inr (.inr ⟨rfl, .inl rfl⟩))))
theorem bwWr {Wg : Nat} : ∀ e ∈ #[mk (.write (smA Wg))], Bw Wg 0 e := by intro e he; simp at he; subst he; exact .inr (.inr (.inr (.inr (.inr ⟨rfl, .inr rfl⟩))))
theorem bwNone {k Wg : Nat} : ∀ e ∈ (#[] : Array Event), Bw Wg k e := by intro e he; simp at he

/-- A deaf atomic step, or a word. -/
def DeafOk (d : Nat) (es : Array Event) : Prop := ∀ (j : Nat) (e : Event), es[j]? = some e → (MemAct.ofEvent e).touch? = none ∨ (∃ b wr, e = ⟨.cell b, wr, true⟩) ∧ 0 < deafBehind d (es.extract 0 j)
theorem dk_none (d : Nat) : DeafOk d #[] := by intro j e h; simp at h
theorem dk_dis (d : Nat) : DeafOk d #[mk .disable] := by
  intro j e h
  match j, h with
  | 0, h => simp at h; subst h; exact .inl rfl
  | j + 1, h => simp at h
theorem dk_r {a : Addr} : DeafOk 1 #[rd a] := by
  intro j e h
  match j, h with
  | 0, h => simp at h; subst h; exact .inr ⟨⟨_, _, rfl⟩, by simp [deafBehind]⟩
  | j + 1, h => simp at h
theorem dk_w {a : Addr} : DeafOk 1 #[wr a] := by
  intro j e h
  match j, h with
  | 0, h => simp at h; subst h; exact .inr ⟨⟨_, _, rfl⟩, by simp [deafBehind]⟩
  | j + 1, h => simp at h
theorem dk_rw {a : Addr} : DeafOk 1 #[rd a, wr a] := by
  intro j e h
  match j, h with
  | 0, h => simp at h; subst h; exact .inr ⟨⟨_, _, rfl⟩, by simp [deafBehind]⟩
  | 1, h => simp at h; subst h; exact .inr ⟨⟨_, _, rfl⟩, by simp [deafBehind, rd]⟩
  | j + 2, h => simp at h
theorem dk_sem {a : Addr} : DeafOk 1 (semEvents a) := by
  intro j e h
  match j, h with
  | 0, h => simp [semEvents] at h; subst h; exact .inl rfl
  | 1, h => simp [semEvents] at h; subst h; exact .inr ⟨⟨_, _, rfl⟩, by simp [deafBehind, semEvents]⟩
  | 2, h => simp [semEvents] at h; subst h; exact .inr ⟨⟨_, _, rfl⟩, by simp [deafBehind, semEvents]⟩
  | 3, h => simp [semEvents] at h; subst h; exact .inl rfl
  | j + 4, h => simp [semEvents] at h
end
end Go.Proofs.YtmmjlngbiilagaaGreatDoor

namespace Go.Proofs.YtmmjlngbiilagaaGreatDoor
open Go Go.Conc
open Go.ConcR (KK wgBlock WgAt stA smA rd wr mk DC0 g_of_ofEvents)
open Go.ConcN (WgLive AtD4 WD CTag upd upd_same upd_ne sumTo sumTo_upd sumTo_congr le_sumTo get_map_set get_map_set_same norel_of RelBy RelBy.appOther RelBy.appNot RelBy.new Deaf_still Vc cnt Vc_upd Vc_le OpenSt others_uncounted isW3 pend deafBehind_idle)

section
variable {X : Cx} {V : Vx} {gs : Array Goroutine} {w w' : World} {sl : Option (Nat × Nat)} {t : Trace} {st sm : Int}

theorem post_ret {tag : MT} (h : isPost tag) : toC tag = .ret := by cases tag <;> first | rfl | exact h.elim

/-- A sender that has not ended, or is not leaving, is there before the starter has seen the join. -/
theorem notPost (hm : ConcN.Mode V.j V.D (toC V.tag) st sm) {i : Nat} (hi : i < V.j) (h : (V.D i).stage ≠ 1) : ¬ isPost V.tag := fun hp => by
  have e := post_ret hp
  rw [e] at hm
  exact h ((hm.fin_inv trivial).1 i hi)

theorem notShut (hB : Bg X noH V gs w t) (hm : ConcN.Mode V.j V.D (toC V.tag) st sm) {i : Nat} (hi : i < V.j) (h : (V.D i).stage ≠ 1) : V.shut = false := by
  cases e : V.shut with
  | false => rfl
  | true => exact absurd (allQuit hB hm e i hi) h

/-- A sender is still to come while its add is pending. -/
theorem MSit.bound {P : Program} {ty : TypeId} {Wg Cm N tot j f d Cw : Nat} {Q O S : Nat → Prop} {vals : Nat → List Value} {Poss Full : List Value → Prop} {Res : List Value → Value → World → Prop} {NextM : Value → Goroutine → World → Prop} {tag : MT} {g : Goroutine} {w : World}
    (h : MSit P ty Wg Cm Q N vals Poss Full Res NextM tot tag j f d O S Cw g w) (hj : j ≤ N) : j + pend (toC tag) ≤ N := by
  cases h <;> simp [toC, pend] <;> omega

theorem quitsRun {P : Program} {q : Nat} {g : Goroutine} (h : QuitsD P q 1 g) : g.status = .running := by
  cases q with
  | zero => exact absurd h.2 (by decide)
  | succ q => exact h.elim (fun x => absurd x.2 (by decide)) (fun x => x.1)

set_option maxHeartbeats 1600000 in
/-- A SENDER's STEP, but for its sends. -/
theorem stepSender0 (hRes : ResOk X) (hN : X.N < 2147483648) (hB : Bg X noH V gs w t) (hwg : WgAt X.ty X.Wg w st sm) (hm : ConcN.Mode V.j V.D (toC V.tag) st sm) (hq : isPost V.tag → AcqA X V.j t) (hl : Lk X V)
    {i : Nat} (hi : i < V.j) {g : Goroutine} (hg : gs[X.L + 1 + i]? = some g) (hrun : g.status = .running) :
    Nxt X V gs w sl t (X.L + 1 + i) ∨ ∃ v vs m, V.rem i = v :: vs ∧ (V.D i).stage = 7 ∧ (V.D i).fuel = m + 1 ∧ (V.D i).deaf = 0 ∧ AtSnd X.P X.ty X.Wg X.Cm X.Q v (Snd X.P X.ty X.Wg X.Cm X.Q vs) (V.OS i) g w := by
  obtain ⟨g₁, hg₁, hs⟩ := hB.snd i hi id
  obtain rfl : g = g₁ := by rw [hg] at hg₁; exact Option.some.inj hg₁
  have hdk := hB.dS i hi id
  have hOS := hB.oS i hi id
  have hrelO := hB.rel i hi id
  unfold Cx.ss at hs
  generalize hrem : V.rem i = rm at hs
  generalize hst : (V.D i).stage = s at hs
  generalize hfu : (V.D i).fuel = m at hs
  generalize hde : (V.D i).deaf = dd at hs hdk
  generalize hOe : V.OS i = O at hs hOS
  have hkn : X.L + 1 + i < V.n := by have := lt_of_get hg; rw [hB.sz] at this; exact this
  have hVj := Vc_le V.j V.D
  have hjN := hl.jN
  have hQk : ∀ b, X.Q b → (∃ m, V.cl b = .ro m ∧ (X.L + 1 + i = 0 ∨ m ≤ X.L + 1 + i)) ∧ b < w.heap.size := fun b hb => by
    obtain ⟨⟨m, h1, h2⟩, h3⟩ := hB.clQ b hb
    exact ⟨⟨m, h2, .inr (by omega)⟩, h3⟩
  have noStill : s ≠ 1 → V.hc = true → V.cst ≤ 3 → False := fun h1 _ h3 => by
    have := notShut hB hm hi (by rw [hst]; exact h1)
    rw [hl.sh h3] at this; cases this
  -- A STEP OF THE LIBRARY's BOOK-KEEPING
  have bookG : ∀ {g' : Goroutine} {w' : World} {es : Array Event} {s' m' dd' : Nat} {st' sm' : Int}, stepG X.P false g w = .go g' w' es → Aside X.Wg w w' → WgAt X.ty X.Wg w' st' sm' → (∀ e ∈ es, Bw X.Wg (X.L + 1 + i) e) → DeafOk dd es →
      SSit X.P X.ty X.Wg X.Cm X.Q [] s' m' dd' O g' w' → deafBehind dd es = dd' → s ≤ 6 → s ≠ 1 →
      (∀ tag', (tag' = toC V.tag ∨ (toC V.tag = .blk ∧ tag' = .w3)) → (mayWake X.P g = true → g'.status = .running → tag' ≠ .blk) → ConcN.Mode V.j (upd V.D i ⟨s', m', dd'⟩) tag' st' sm') → rm = [] →
      ((s' < s ∧ cnt ⟨s', m', dd'⟩ ≤ cnt (V.D i)) ∨ (s' = s ∧ m' + 1 = m)) → Nxt X V gs w sl t (X.L + 1 + i) := by
    intro g' w' es s' m' dd' st' sm' hgo hA hwg' hes hdo hs' hdd h6 h1 hmode' hr hlt
    subst hr
    refine stepS hRes hB hm hq hl hi hg hgo (Eff.book hB (.inr (by omega)) hkn hA hwg' hes fun hc h3 => (noStill h1 hc h3).elim) (by rw [hrem]; exact hs') (fun b hb => ⟨(hOS b hb).1, by rw [hA.size]; exact (hOS b hb).2⟩) (by rw [hde]; exact hdd)
      (fun _ => ?_) hwg' hmode' (fun hp => absurd hp (notPost hm hi (by rw [hst]; exact h1))) (by rw [hst, hfu]; exact hlt) (fun h => absurd hrem h) (fun _ => hrem)
    obtain ⟨r, hr⟩ := hrelO (by omega)
    exact ⟨r, rel_book hr hdk hdo⟩
  have book : ∀ {g' : Goroutine} {w' : World} {es : Array Event} {s' m' dd' : Nat} {st' sm' : Int}, stepG X.P false g w = .go g' w' es → Aside X.Wg w w' → WgAt X.ty X.Wg w' st' sm' → (∀ e ∈ es, Bw X.Wg (X.L + 1 + i) e) → DeafOk dd es →
      SSit X.P X.ty X.Wg X.Cm X.Q [] s' m' dd' O g' w' → deafBehind dd es = dd' → s ≤ 6 → s ≠ 1 → ConcN.Mode V.j (upd V.D i ⟨s', m', dd'⟩) (toC V.tag) st' sm' → rm = [] →
      ((s' < s ∧ cnt ⟨s', m', dd'⟩ ≤ cnt (V.D i)) ∨ (s' = s ∧ m' + 1 = m)) → Nxt X V gs w sl t (X.L + 1 + i) :=
    fun hgo hA hwg' hes hdo hs' hdd h6 h1 hmode' hr hlt => bookG hgo hA hwg' hes hdo hs' hdd h6 h1 (fun _ ht _ => hmode'.retag ht) hr hlt
  have idle : ∀ {g' : Goroutine} {m' : Nat}, stepG X.P false g w = .go g' w #[] → SSit X.P X.ty X.Wg X.Cm X.Q [] s m' dd O g' w → m' + 1 = m → s ≤ 6 → s ≠ 1 → rm = [] → Nxt X V gs w sl t (X.L + 1 + i) := by
    intro g' m' hgo hs' hmm h6 h1 hr
    exact book hgo (.refl X.Wg w) hwg bwNone (dk_none _) hs' rfl h6 h1 (by have := hm.same (i := i) m' dd; rwa [hst] at this) hr (.inr ⟨rfl, hmm⟩)
  -- AN OWN STEP WHILE IT SENDS
  have own : ∀ {g' : Goroutine} {w' : World} {es : Array Event} {m' : Nat} {O' : Nat → Prop}, stepG X.P false g w = .go g' w' es → DOx O O' X.Q w w' es → SSit X.P X.ty X.Wg X.Cm X.Q rm 7 m' 0 O' g' w' → s = 7 → dd = 0 → m' + 1 = m → (rm ≠ [] → m' ≠ 0) → Nxt X V gs w sl t (X.L + 1 + i) := by
    intro g' w' es m' O' hgo hD hs' h7 h0 hmm hpk
    subst h7 h0
    obtain ⟨cl', hE, hO', _⟩ := Eff.own (fn := g.frame.fn) (pos := g.frame.place) hB (.inr (by omega)) hkn hD hOS hQk (fun hc h3 _ => (noStill (by omega) hc h3).elim)
    refine stepS hRes hB hm hq hl hi hg hgo hE (by rw [hrem]; exact hs') hO' (by rw [hde]; exact deaf_evP hD.ev 0) (fun h => by omega) (hwg.of_block (hD.block _ (heap_lt hwg) fun ho => by have := (hOS _ ho).1; rw [hB.clW] at this; cases this))
      (fun _ ht _ => ?_) (fun hp => absurd hp (notPost hm hi (by rw [hst]; omega))) (.inr ⟨hst.symm, by omega⟩) (by rw [hrem]; exact hpk) (fun h => absurd rfl h)
    have := hm.same (i := i) m' 0
    rw [hst] at this
    exact this.retag ht
  cases hs with
  | snd h =>
    rename_i v vs m
    rcases h.cases with hstop | ⟨m', rfl, _, hstep⟩
    · exact .inr ⟨v, vs, m, rfl, rfl, rfl, rfl, hstop w (roRf _ _)⟩
    · obtain ⟨g', w', es, hgo, O', hD, hg'⟩ := hstep w (roRf _ _)
      exact .inl (own hgo hD (.snd hg') rfl rfl rfl (fun _ => by omega))
  | prk h => simp [parked] at hrun
  | r0 h =>
    left
    rcases h.cases with hstop | ⟨m', rfl, _, hstep⟩
    · obtain ⟨_, g', hgo, m₂, hk⟩ := hstop w (roRf _ _)
      refine stepS hRes hB hm hq hl hi hg hgo (Eff.book hB (.inr (by omega)) hkn (.refl X.Wg w) hwg bwRel fun hc h3 => (noStill (by omega) hc h3).elim) (by rw [hrem]; exact .k1 hk) (fun b hb => hOS b hb) (by rw [hde]; rfl) (fun _ => ⟨_, RelBy.new hdk _ _⟩) hwg
        (fun _ ht _ => (hm.counted hi (by omega) (.inl rfl) _ _).retag ht) (fun hp => absurd hp (notPost hm hi (by rw [hst]; omega))) (.inl ⟨by omega, by simp [cnt, hst]⟩) (fun h => absurd hrem h) (fun _ => hrem)
    · obtain ⟨g', w', es, hgo, O', hD, hg'⟩ := hstep w (roRf _ _)
      exact own hgo hD (.r0 hg') rfl rfl rfl (fun h => absurd rfl h)
  | k1 h =>
    left
    rcases Goes.cases h with hstop | ⟨m', rfl, hstep⟩
    · obtain ⟨_, g', hgo, m₂, hk⟩ := hstop w (Rl.refl w)
      exact book hgo (.refl X.Wg w) hwg bwDis (dk_dis _) (.d1 hk) rfl (by omega) (by omega) (hm.counted hi (by omega) (.inr rfl) _ _) rfl (.inl ⟨by omega, by simp [cnt, hst]⟩)
    · obtain ⟨g', w', es, hgo, ⟨rfl, rfl⟩, hg'⟩ := hstep w (Rl.refl w)
      exact idle hgo (.k1 hg') rfl (by omega) (by omega) rfl
  | d1 h =>
    left
    rcases Goes.cases h with hstop | ⟨m', rfl, hstep⟩
    · obtain ⟨_, hall⟩ := hstop w (Rl.refl w)
      have hc1 : cnt (V.D i) = 1 := by simp [cnt, hst]
      have hV1 : 1 ≤ Vc V.j V.D := by have := le_sumTo (f := fun x => cnt (V.D x)) hi; simp only [Vc]; omega
      have hq0 : ∀ q, cnt (⟨1, q, 1⟩ : WD) = 0 := fun _ => rfl
      have opq : ∀ q, OpenSt V.j V.D → OpenSt V.j (upd V.D i ⟨1, q, 1⟩) := fun q h a ha => by
        by_cases e : a = i
        · subst e; rw [upd_same]; simp
        · rw [upd_ne V.D _ e]; exact h a ha
      generalize hC : toC V.tag = ct at hm
      cases hm with
      | opn h1 h2 h3 =>
        have hp1 : V.j + pend ct ≤ X.N := by
          obtain ⟨_, _, hs0⟩ := hB.main id
          have := MSit.bound hs0 hjN
          rwa [hC] at this
        obtain ⟨v, hv⟩ : ∃ v, Vc V.j V.D + pend ct = v + 1 := ⟨Vc V.j V.D + pend ct - 1, by omega⟩
        rw [hv] at hwg
        have hw1 : WgAt X.ty X.Wg w (((v : Nat) + 1) * KK + ((0 : Nat) : Int)) 0 := by simpa using hwg
        obtain ⟨g', hgo, _, hqq⟩ := hall v 0 (by omega) (by omega) hw1
        obtain ⟨q, hqq⟩ := hqq (by omega)
        have hv' : Vc V.j (upd V.D i ⟨1, q, 1⟩) + pend ct = v := by have := Vc_upd V.D (⟨1, q, 1⟩ : WD) hi; have := hq0 q; omega
        refine book hgo (aside_setCell w (stA X.Wg) _) (hwg.setSt _) bw2 dk_rw (.quit hqq) rfl (by omega) (by omega) ?_ rfl (.inl ⟨by omega, by simp [cnt]⟩)
        have e : ((v : Nat) : Int) * KK + ((0 : Nat) : Int) = ((Vc V.j (upd V.D i ⟨1, q, 1⟩) + pend ct : Nat) : Int) * KK := by rw [hv']; simp
        rw [e, hC]
        exact .opn h1 (opq q h2) (fun vs ev => by have := h3 vs ev; omega)
      | reg h1 h2 h3 =>
        obtain ⟨v, hv⟩ : ∃ v, Vc V.j V.D = v + 1 := ⟨Vc V.j V.D - 1, by omega⟩
        rw [hv] at hwg
        have hw1 : WgAt X.ty X.Wg w (((v : Nat) + 1) * KK + ((1 : Nat) : Int)) 0 := by simpa using hwg
        obtain ⟨g', hgo, hlast, hqq⟩ := hall v 1 (by omega) (by omega) hw1
        by_cases hv0 : v = 0
        · subst hv0
          obtain ⟨m₂, hk⟩ := hlast ⟨rfl, rfl⟩
          refine book hgo (aside_setCell w (stA X.Wg) _) (hwg.setSt _) bw2 dk_rw (.d2 hk) rfl (by omega) (by omega) ?_ rfl (.inl ⟨by omega, by simp [cnt]⟩)
          have hoth : ∀ a, a < V.j → a ≠ i → (V.D a).stage = 1 := fun a ha e => by
            have c0 := others_uncounted hi hv hc1 a ha e
            have := h2 a ha
            simp only [cnt] at c0
            split at c0 <;> omega
          have := ConcN.Mode.last (j := V.j) (D := upd V.D i ⟨4, m₂, 1⟩) (tag := ct) i h1 hi (by rw [upd_same]; simp) (fun a ha e => by rw [upd_ne V.D _ e]; exact hoth a ha e)
          rw [upd_same] at this
          rw [hC]
          simpa using this
        · obtain ⟨q, hqq⟩ := hqq (by omega)
          have hv' : Vc V.j (upd V.D i ⟨1, q, 1⟩) = v := by have := Vc_upd V.D (⟨1, q, 1⟩ : WD) hi; have := hq0 q; omega
          refine book hgo (aside_setCell w (stA X.Wg) _) (hwg.setSt _) bw2 dk_rw (.quit hqq) rfl (by omega) (by omega) ?_ rfl (.inl ⟨by omega, by simp [cnt]⟩)
          have e : ((v : Nat) : Int) * KK + ((1 : Nat) : Int) = ((Vc V.j (upd V.D i ⟨1, q, 1⟩) : Nat) : Int) * KK + 1 := by rw [hv']; simp
          rw [e, hC]
          exact .reg h1 (opq q h2) (by omega)
      | last L _ h2 h3 h4 =>
        by_cases e : i = L
        · subst e; omega
        · have := h4 i hi e; omega
      | sema h2 => have := h2 i hi; omega
      | fin _ h2 => have := h2 i hi; omega
    · obtain ⟨g', w', es, hgo, ⟨rfl, rfl⟩, hg'⟩ := hstep w (Rl.refl w)
      exact idle hgo (.d1 hg') rfl (by omega) (by omega) rfl
  | d2 h =>
    left
    rcases Goes.cases h with hstop | ⟨m', rfl, hstep⟩
    · obtain ⟨_, hx⟩ := hstop w (Rl.refl w)
      obtain ⟨hW3, hoth, rfl, rfl⟩ := hm.isLast hi (by omega)
      simp only [hst] at hwg
      obtain ⟨g', hgo, m₂, hk⟩ := hx (by simpa using hwg)
      refine book hgo (.refl X.Wg w) hwg bw1r dk_r (.d3 hk) rfl (by omega) (by omega) ?_ rfl (.inl ⟨by omega, by simp [cnt]⟩)
      have := ConcN.Mode.last (j := V.j) (D := upd V.D i ⟨3, m₂, 1⟩) (tag := toC V.tag) i hW3 hi (by rw [upd_same]; simp) (fun a ha e => by rw [upd_ne V.D _ e]; exact hoth a ha e)
      rw [upd_same] at this
      simpa using this
    · obtain ⟨g', w', es, hgo, ⟨rfl, rfl⟩, hg'⟩ := hstep w (Rl.refl w)
      exact idle hgo (.d2 hg') rfl (by omega) (by omega) rfl
  | d3 h =>
    left
    rcases Goes.cases h with hstop | ⟨m', rfl, hstep⟩
    · obtain ⟨_, hx⟩ := hstop w (Rl.refl w)
      obtain ⟨hW3, hoth, rfl, rfl⟩ := hm.isLast hi (by omega)
      simp only [hst] at hwg
      obtain ⟨g', hgo, m₂, hk⟩ := hx (by simpa using hwg)
      refine book hgo (aside_setCell w (stA X.Wg) _) (hwg.setSt 0) bw1w dk_w (.d4 hk) rfl (by omega) (by omega) ?_ rfl (.inl ⟨by omega, by simp [cnt]⟩)
      have := ConcN.Mode.last (j := V.j) (D := upd V.D i ⟨2, m₂, 1⟩) (tag := toC V.tag) i hW3 hi (by rw [upd_same]; simp) (fun a ha e => by rw [upd_ne V.D _ e]; exact hoth a ha e)
      rw [upd_same] at this
      simpa using this
    · obtain ⟨g', w', es, hgo, ⟨rfl, rfl⟩, hg'⟩ := hstep w (Rl.refl w)
      exact idle hgo (.d3 hg') rfl (by omega) (by omega) rfl
  | d4 h =>
    left
    rcases Goes.cases h with hstop | ⟨m', rfl, hstep⟩
    · obtain ⟨_, hmw, hx⟩ := hstop w (Rl.refl w)
      obtain ⟨hW3, hoth, rfl, rfl⟩ := hm.isLast hi (by omega)
      simp only [hst] at hwg
      obtain ⟨g', hgo, q, hk⟩ := hx (by simpa using hwg)
      refine bookG hgo (aside_setCell w (smA X.Wg) _) (hwg.setSm 1) bwSem dk_sem (.quit hk) (by simp [deafBehind, semEvents]) (by omega) (by omega) (fun tag' ht hwk => ?_) rfl (.inl ⟨by omega, by simp [cnt]⟩)
      have hallq : ConcN.AllQuit V.j (upd V.D i ⟨1, q, 1⟩) := fun a ha => by
        by_cases e : a = i
        · subst e; rw [upd_same]
        · rw [upd_ne V.D _ e]; exact hoth a ha e
      have hnb := hwk hmw (quitsRun hk)
      have e3 : tag' = .w3 := by
        rcases ht with rfl | ⟨_, rfl⟩
        · generalize toC V.tag = ct at hW3 hnb
          cases ct <;> first | rfl | exact hW3.elim | exact absurd rfl hnb
        · rfl
      subst e3
      simp only [if_true]
      exact .sema hallq
    · obtain ⟨g', w', es, hgo, ⟨rfl, rfl⟩, hg'⟩ := hstep w (Rl.refl w)
      exact idle hgo (.d4 hg') rfl (by omega) (by omega) rfl
  | quit h =>
    left
    cases m with
    | zero => rw [h.1] at hrun; cases hrun
    | succ q =>
      rcases h with ⟨hf, _⟩ | ⟨_, g', es, hmute, hstep, hq'⟩
      · rw [hf] at hrun; cases hrun
      have hgo := hstep w
      have hT := hB.ti.mute (u := MemOp.ofEvents (X.L + 1 + i) g.frame.fn g.frame.place es) (g := X.L + 1 + i) hkn g_of_ofEvents
        (fun op hop => by obtain ⟨e, he, rfl⟩ := mem_ofE hop; exact touch_mute (hmute e he)) (fun op hop => by obtain ⟨e, he, rfl⟩ := mem_ofE hop; exact low_mute (hmute e he) _)
      have hno : ∀ e ∈ es, e.loc ≠ .mark (.release (stA X.Wg)) := fun e he h => by
        have := hmute e he
        obtain ⟨loc, a, b⟩ := e
        simp only at h
        subst h
        simp [Event.mute] at this
      have hE : Eff X V (X.L + 1 + i) w w V.cl (t ++ MemOp.ofEvents (X.L + 1 + i) g.frame.fn g.frame.place es) :=
        ⟨rfl, rfl, rfl, Nat.le_refl _, fun _ _ _ _ => rfl, hB.live, fun _ _ => rfl, hT, hB.nor.app (norel_of hno), hB.chm, fun hw => (hB.chw hw).2.2.2, fun _ _ _ => atRel_refl w, hB.kd.kd⟩
      have hdo : DeafOk dd es := fun jx e he => .inl (touch_mute (hmute e (Array.mem_of_getElem? he)))
      have hrb : ∀ {r : Nat}, RelBy (stA X.Wg) t (X.L + 1 + i) r → RelBy (stA X.Wg) (t ++ MemOp.ofEvents (X.L + 1 + i) g.frame.fn g.frame.place es) (X.L + 1 + i) r := fun hr => rel_book hr hdk hdo
      refine stepS hRes hB hm hq hl hi hg hgo hE (by rw [hrem]; exact .quit hq') hOS (by rw [hde]) (fun _ => ?_) hwg
        (fun _ ht _ => ?_) (fun hp => (hq hp).app fun a r ha hr => ?_) (.inr ⟨hst.symm, by omega⟩) (fun h => absurd hrem h) (fun _ => hrem)
      · obtain ⟨r, hr⟩ := hrelO (by omega)
        exact ⟨r, hrb hr⟩
      · have := hm.same (i := i) q (deafBehind dd es)
        rw [hst] at this
        exact this.retag ht
      · by_cases e : a = i
        · subst e; exact hrb hr
        · exact hr.appOther g_of_ofEvents (by omega)
end
end Go.Proofs.YtmmjlngbiilagaaGreatDoor

/-
  A FAN-IN: a sender hands its value to the collector, or waits: the invariant stands, the measure falls.
-/
namespace Go.Proofs.YtmmjlngbiilagaaGreatDoor
open Go Go.Conc
open Go.ConcR (KK wgBlock WgAt stA smA rd wr mk DC0 g_of_ofEvents)
open Go.ConcN (WgLive AtD4 WD CTag upd upd_same upd_ne sumTo sumTo_upd sumTo_congr le_sumTo get_map_set get_map_set_same norel_of RelBy RelBy.appOther RelBy.appNot RelBy.new Deaf_still Vc cnt Vc_upd Vc_le OpenSt others_uncounted isW3 pend deafBehind_idle)

/-- What is received so far is one of the possible lists. -/
def PossOk (X : Cx) : Prop := ∀ l rem, Mrg X.N X.vals l rem → X.Poss l

section
variable {X : Cx} {V : Vx} {gs gs' : Array Goroutine} {w w' : World} {sl : Option (Nat × Nat)} {t u : Trace} {st sm : Int}

theorem wgt_upd {N i : Nat} {D : Nat → WD} {rem : Nat → List Value} (x : WD) (rm : List Value) (hi : i < N) :
    sumTo N (fun a => (upd D i x a).stage + (upd rem i rm a).length) + ((D i).stage + (rem i).length) = sumTo N (fun a => (D a).stage + (rem a).length) + (x.stage + rm.length) := by
  have ew := sumTo_upd (fun a => ((D a), (rem a))) (x, rm) (fun p => p.1.stage + p.2.length) hi
  have e1 : ∀ a, upd (fun a => ((D a), (rem a))) i (x, rm) a = (upd D i x a, upd rem i rm a) := fun a => by
    by_cases e : a = i
    · subst e; simp only [upd_same]
    · simp only [upd_ne _ _ e]
  simp only [e1] at ew
  exact ew

theorem snd_sit {P : Program} {ty : TypeId} {Wg Cm : Nat} {Q O : Nat → Prop} {g : Goroutine} : ∀ {vs : List Value}, Snd P ty Wg Cm Q vs O g w → ∃ f, SSit P ty Wg Cm Q vs 7 f 0 O g w ∧ (vs ≠ [] → f ≠ 0)
  | [], ⟨m, h⟩ => ⟨m, .r0 h, fun e => absurd rfl e⟩
  | _ :: _, ⟨m, h⟩ => ⟨m + 1, .snd h, fun _ => by omega⟩

theorem vc_same {D : Nat → WD} {j i : Nat} (x : WD) (hi : i < j) (h : cnt x = cnt (D i)) : Vc j (upd D i x) = Vc j D := by
  have := Vc_upd D x hi; omega

/-- A VALUE IS HANDED OVER. -/
theorem meet (hRes : ResOk X) (hPoss : PossOk X) (hB : Bg X noH V gs w t) (hwg : WgAt X.ty X.Wg w st sm) (hm : ConcN.Mode V.j V.D (toC V.tag) st sm) (hl : Lk X V)
    {i : Nat} (hi : i < V.j) (hc : V.hc = true) (c4 : V.cst = 4) {v : Value} {vs : List Value} (hrem : V.rem i = v :: vs) (h7 : (V.D i).stage = 7) (hd : (V.D i).deaf = 0)
    (hA : Aside X.Cm w w') (hch : ∃ s r, w'.heap[X.Cm]? = some (.chan 0 #[] false s r false))
    (hgs : ∀ k, k ≠ X.L + 1 + i → k ≠ X.L + 1 + X.N → gs'[k]? = gs[k]?) (hsz : gs'.size = gs.size) {gi gc : Goroutine} (hgi : gs'[X.L + 1 + i]? = some gi) (hgc : gs'[X.L + 1 + X.N]? = some gc)
    (hs : Snd X.P X.ty X.Wg X.Cm X.Q vs (V.OS i) gi w') (hcr : NxV X.P X.ty X.Wg X.Cm V.S V.Cw X.Poss X.Full X.Res (X.tot - V.l.length) V.l v V.OC gc w')
    (hp : Plain X V.n w.heap.size (fun k => k = X.L + 1 + i ∨ k = X.L + 1 + X.N) u) : ∃ μ', LtM μ' (meas X V) ∧ Inv X μ' (crowd gs' w' sl) (t ++ u) := by
  have hjN := (hB.nC hc).2
  have hiN : i < X.N := by omega
  have hsh : V.shut = false := notShut hB hm hi (by omega)
  have hnp := notPost hm hi (by omega)
  obtain ⟨f, hsit, hf⟩ := snd_sit hs
  have hlen : V.l.length < X.tot := by
    have h1 := le_sumTo (f := fun a => (V.rem a).length) hiN
    have h2 := hl.cnt
    simp only [hrem, List.length_cons] at h1
    omega
  obtain ⟨r, hr⟩ : ∃ r, X.tot - V.l.length = r + 1 := ⟨X.tot - V.l.length - 1, by omega⟩
  have hmrg : Mrg X.N X.vals (V.l ++ [v]) (upd V.rem i vs) := .take hl.mrg hiN hrem
  rw [hr] at hcr
  obtain ⟨f2, hrc⟩ := (rcv_iff _ _ _ _ _ _ _ _ _ _ _ _ _ _).1 (hcr (hPoss _ _ hmrg))
  have hr' : X.tot - (V.l ++ [v]).length = r := by simp; omega
  have hHW : X.Cm ≠ X.Wg := hB.neM
  have hdS : ∀ k, Deaf (t ++ u) k = Deaf t k := fun k => Deaf_still t k u hp.nd
  have hB1 : Bg X (fun k => k = X.L + 1 + i ∨ k = X.L + 1 + X.N) V gs' w' (t ++ u) :=
    (hB.less (fun _ h => h.elim)).com hRes hA hB.clM hHW (fun k hk => hgs k (fun e => hk (.inl e)) (fun e => hk (.inr e))) hsz hp (by rw [hsh]; exact hch)
      (fun hw => by obtain ⟨_, _, h3, s, h⟩ := hB.chw hw; exact ⟨s, (hA.block _ h3).trans h⟩) (fun _ _ h => absurd (.inr rfl) h) (kd_chan hch)
  have hB2 := Bg.fillS (H' := fun k => k = X.L + 1 + X.N) (i := i) (x := ⟨7, f, 0⟩) (rm := vs) (O' := V.OS i) hi hB1 (fun k hk => by
      by_cases e : k = X.L + 1 + i
      · exact .inl e
      · exact .inr (fun h => h.elim e hk)) hgi hsit ((hdS _).trans ((hB.dS i hi id).trans hd)) (fun h => absurd h (by simp)) (fun b hb => ⟨(hB.oS i hi id b hb).1, by rw [hA.size]; exact (hB.oS i hi id b hb).2⟩)
  have hB3 := Bg.fillC (V := { V with D := upd V.D i ⟨7, f, 0⟩, rem := upd V.rem i vs, OS := upd V.OS i (V.OS i) }) (H' := noH) (l := V.l ++ [v]) (c := 4) (f := f2 + 1) (O' := V.OC) hc hB2 (fun k _ => Classical.em _) hgc (by rw [hr']; exact .rcv hrc) ((hdS _).trans (hB.dC hc id))
      (fun b hb => ⟨(hB.oC hc id b hb).1, by rw [hA.size]; exact (hB.oC hc id b hb).2⟩)
  have hm' := hm.same (i := i) f 0
  rw [h7] at hm'
  refine ⟨_, ?_, gs', w', sl, _, st, sm, rfl, hB3, hwg.of_block (hA.block _ hHW.symm), hm', fun hpo => absurd hpo hnp, ?_, rfl⟩
  · have e1 := wgt_upd (D := V.D) (rem := V.rem) ⟨7, f, 0⟩ vs hiN
    have e2 := vc_same (D := V.D) (⟨7, f, 0⟩ : WD) hi (by simp [cnt, h7])
    have e3 : (V.rem i).length = vs.length + 1 := by rw [hrem]; rfl
    simp only [meas, wgt, e2]
    refine Prod.Lex.left _ _ ?_
    simp only at e1
    omega
  · refine ⟨hmrg, ?_, fun a ha hN => ?_, hl.jN, fun h => (by simp only [hc] at h; cases h), .inl rfl, fun h => absurd (show 4 ≤ 3 from h) (by decide), fun _ _ h => absurd (show f2 + 1 = 0 from h) (by omega), fun _ => (show (4 : Nat) ≠ 2 by decide), fun a ha hne => ?_, fun h => (by simp only [hsh] at h; cases h)⟩
    · have e := sumTo_upd V.rem vs List.length hiN
      have h2 := hl.cnt
      have e3 : (V.rem i).length = vs.length + 1 := by rw [hrem]; rfl
      simp only [List.length_append, List.length_singleton]
      omega
    · have hai : a ≠ i := by simp only at ha; omega
      have := hl.un a ha hN
      simp only [upd_ne _ _ hai]
      exact this
    · by_cases e : a = i
      · subst e; simp only [upd_same] at hne; exact absurd rfl hne
      · simp only [upd_ne _ _ e] at hne ⊢; exact hl.rn a ha hne

theorem plain_none {B n : Nat} {H : Nat → Prop} {k : Nat} {fn : FuncId} {pos : String} : Plain X n B H (MemOp.ofEvents k fn pos #[]) := by
  have e : MemOp.ofEvents k fn pos #[] = #[] := rfl
  rw [e]
  exact ⟨fun op h => by simp at h, fun op h => by simp at h, fun op h => by simp at h, fun op h => by simp at h, fun op h => by simp at h⟩

/-- The four operations of a meeting. -/
theorem plain_meet {B n : Nat} {i j c s r cap : Nat} {fn fn1 fn2 : FuncId} {pos p1 p2 : String} (hi : i < n) (hj : j < n) (hcB : c < B) (k : Nat) :
    Plain X n B (fun x => x = i ∨ x = j) (MemOp.ofEvents k fn pos #[] ++ #[{ g := i, fn := fn1, pos := p1, act := .send c s }, { g := j, fn := fn2, pos := p2, act := .recv c r cap }, { g := i, fn := fn1, pos := p1, act := .sendDone c s }, { g := j, fn := fn2, pos := p2, act := .recvDone c r }]) := by
  have e : MemOp.ofEvents k fn pos #[] = #[] := rfl
  rw [e]
  refine ⟨fun op h => ?_, fun op h => ?_, fun op h => ?_, fun op h => ?_, fun op h => ?_⟩ <;> simp at h <;> rcases h with rfl | rfl | rfl | rfl <;> first | rfl | exact hcB | exact ⟨hi, .inl rfl⟩ | exact ⟨hj, .inr rfl⟩ | trivial | (simp; done)

/-- A SENDER's SEND. -/
theorem sendS (hRes : ResOk X) (hPoss : PossOk X) (hB : Bg X noH V gs w t) (hwg : WgAt X.ty X.Wg w st sm) (hm : ConcN.Mode V.j V.D (toC V.tag) st sm) (hl : Lk X V)
    {i : Nat} (hi : i < V.j) {g : Goroutine} (hg : gs[X.L + 1 + i]? = some g) {v : Value} {vs : List Value} {m : Nat} (hrem : V.rem i = v :: vs) (h7 : (V.D i).stage = 7) (hf : (V.D i).fuel = m + 1) (hd : (V.D i).deaf = 0)
    (hs : AtSnd X.P X.ty X.Wg X.Cm X.Q v (Snd X.P X.ty X.Wg X.Cm X.Q vs) (V.OS i) g w) : Nxt X V gs w sl t (X.L + 1 + i) := by
  obtain ⟨hrun, z, hcomm, hnext⟩ := hs
  have hk0 : (X.L + 1 + i == 0) = false := by simp
  have hsh : V.shut = false := notShut hB hm hi (by omega)
  have hnp := notPost hm hi (by omega)
  obtain ⟨s, r, hch⟩ := hB.chm
  rw [hsh] at hch
  have hlt := lt_of_get hg
  have hltn : X.L + 1 + i < V.n := by rw [← hB.sz]; exact hlt
  have hCl := heap_lt hch
  have hiN : i < X.N := Nat.lt_of_lt_of_le hi hl.jN
  by_cases hcol : V.hc = true ∧ V.cst = 4 ∧ V.cfu = 0
  · obtain ⟨hc, c4, c0⟩ := hcol
    have hjN := (hB.nC hc).2
    have hn := (hB.nC hc).1
    obtain ⟨y, hy, hcs⟩ := hB.col hc id
    have hne : X.L + 1 + X.N ≠ X.L + 1 + i := by omega
    obtain ⟨g₀, z', rfl, hrc⟩ : ∃ (g₀ : Goroutine) (z' : Value), y = parked (core g₀) #[rcase X.Cm z'] (.recv true) ∧ (∀ w₁, RO X.ty X.Wg V.S V.OC w w₁ → Rc1 X.P X.ty X.Wg X.Cm V.S V.Cw X.Poss X.Full X.Res V.l (X.tot - V.l.length) V.OC g₀ w₁) := by
      unfold Cx.cs at hcs
      rw [c4, c0] at hcs
      cases hcs with
      | prk h => exact ⟨_, _, rfl, h⟩
    have hpart : partners (gs.setIfInBounds (X.L + 1 + i) ph) X.Cm false = [(X.L + 1 + X.N, 0)] :=
      onePart hne hy (by rw [offersAt_parked_recv, if_pos rfl]) (fun a x ha hac hx => (hB.off hx).recvM hB (fun h => hac h.2.1))
    have hrunT := crowd_send_meets (P := X.P) (sl := sl) hg (by rw [hk0]; exact hcomm) hch hne hy hpart
    rw [finishComm_send, finishComm_recv] at hrunT
    have hA : Aside X.Cm w (w.setChan X.Cm 0 #[] false (s + 1) (r + 1) false) := Aside.put X.Cm w _
    have hRl : ∀ {x : Nat} {S : Nat → Prop}, (∀ b, S b → (V.cl b = .own x ∨ ∃ m, V.cl b = .ro m)) → Rl X.ty X.Wg S w (w.setChan X.Cm 0 #[] false (s + 1) (r + 1) false) := fun hS =>
      ⟨hA.tape, hA.os, hA.output, by rw [hA.size]; exact Nat.le_refl _, fun b hb => hA.block b (fun e => by
        have h := hS b hb
        rw [e, hB.clM] at h
        rcases h with h | ⟨m, h⟩ <;> cases h), fun ⟨s1, s2, h⟩ => ⟨s1, s2, h.of_block (hA.block _ hB.neM.symm)⟩⟩
    obtain ⟨_, z₂, _, hval, _⟩ := hrc w (roRf _ _)
    obtain ⟨μ', h1, h2⟩ := meet (sl := sl) (w' := w.setChan X.Cm 0 #[] false (s + 1) (r + 1) false) hRes hPoss hB hwg hm hl hi hc c4 hrem h7 hd hA ⟨_, _, heap_setChan_self w hch ..⟩
      (gs' := (gs.setIfInBounds (X.L + 1 + X.N) (Conc.served (core g₀) (recvd true v true))).setIfInBounds (X.L + 1 + i) (Conc.served (core g) undef))
      (fun k h1 h2 => by rw [Array.getElem?_setIfInBounds_ne (Ne.symm h1), Array.getElem?_setIfInBounds_ne (Ne.symm h2)]) (by simp)
      (by rw [Array.getElem?_setIfInBounds_self_of_lt (by simpa using hlt)])
      (by rw [Array.getElem?_setIfInBounds_ne (Ne.symm hne), Array.getElem?_setIfInBounds_self_of_lt (lt_of_get hy)]; rfl)
      (hnext _ (hRl (x := X.L + 1 + i) fun b hb => hb.elim (fun ho => .inl (hB.oS i hi id b ho).1) fun hq => .inr ⟨_, (hB.clQ b hq).1.choose_spec.2⟩))
      (hval v _ (hRl (x := X.L + 1 + X.N) fun b hb => hb.elim (fun ho => .inl (hB.oC hc id b ho).1) fun hq => .inr ⟨_, (hB.clS hc b hq).1.choose_spec.2⟩))
      (plain_meet (X := X) (c := X.Cm) (s := s) (r := r) (cap := 0) (fn := g.frame.fn) (pos := g.frame.place) (fn1 := (core g).frame.fn) (p1 := (core g).frame.place) (fn2 := (core g₀).frame.fn) (p2 := (core g₀).frame.place) hltn (by omega) hCl (X.L + 1 + i))
    exact ⟨_, _, μ', hrunT, h1, h2⟩
  · have hpart : partners (gs.setIfInBounds (X.L + 1 + i) ph) X.Cm false = [] :=
      noParts fun a x ha hx => (hB.off hx).recvM hB (fun h => hcol ⟨h.1, h.2.2⟩)
    have hrunT := crowd_waits (P := X.P) (sl := sl) hg (by rw [hk0]; exact hcomm) (fun cc hcc => by
      simp at hcc
      subst hcc
      exact ways_send_none hch (by simp) hpart)
    have hB1 : Bg X (· = X.L + 1 + i) V (gs.setIfInBounds (X.L + 1 + i) (parked (core g) #[scase X.Cm v z] .send)) w (t ++ MemOp.ofEvents (X.L + 1 + i) g.frame.fn g.frame.place #[]) :=
      (hB.less (fun _ h => h.elim)).com hRes (.refl X.Cm w) hB.clM hB.neM (fun k hk => by rw [Array.getElem?_setIfInBounds_ne (Ne.symm hk)]) (by simp) plain_none hB.chm (fun hw => (hB.chw hw).2.2.2) (fun _ _ _ => atRel_refl w) (kd_chan hB.chm)
    have hB2 := Bg.fillS (H' := noH) (i := i) (x := ⟨7, 0, 0⟩) (rm := v :: vs) (O' := V.OS i) hi hB1 (fun k _ => Classical.em _) (by rw [Array.getElem?_setIfInBounds_self_of_lt hlt]) (.prk hnext)
      ((Deaf_still t _ _ (plain_none (X := X) (n := 0) (B := 0) (H := noH)).nd).trans ((hB.dS i hi id).trans hd)) (fun h => absurd h (by simp)) (hB.oS i hi id)
    have hm' := hm.same (i := i) 0 0
    rw [h7] at hm'
    have hremE : upd V.rem i (v :: vs) = V.rem := by
      funext a
      by_cases e : a = i
      · subst e; rw [upd_same, hrem]
      · rw [upd_ne _ _ e]
    refine ⟨_, _, _, hrunT, ?_, _, w, sl, _, st, sm, rfl, hB2, hwg, hm', fun hpo => absurd hpo hnp, ?_, rfl⟩
    · have e1 := wgt_upd (D := V.D) (rem := V.rem) ⟨7, 0, 0⟩ (v :: vs) hiN
      have e2 := vc_same (D := V.D) (⟨7, 0, 0⟩ : WD) hi (by simp [cnt, h7])
      have ef := sumTo_upd V.D (⟨7, 0, 0⟩ : WD) WD.fuel hiN
      rw [hrem, h7] at e1
      simp only at e1 ef
      have e1' : (sumTo X.N fun a => (upd V.D i ⟨7, 0, 0⟩ a).stage + (upd V.rem i (v :: vs) a).length) = sumTo X.N fun a => (V.D a).stage + (V.rem a).length := by omega
      simp only [meas, wgt, fsum, osum, e2, e1']
      refine Prod.Lex.right _ ?_
      omega
    · refine ⟨hremE.symm ▸ hl.mrg, ?_, fun a ha hN => ?_, hl.jN, hl.nc, hl.c4, hl.sh, fun h1 h2 h3 => absurd ⟨h1, h2, h3⟩ hcol, hl.ex2, fun a ha hne => ?_, hl.c40⟩
      · show V.l.length + sumTo X.N (fun a => (upd V.rem i (v :: vs) a).length) = X.tot
        rw [hremE]; exact hl.cnt
      · have hai : a ≠ i := by simp only at ha; omega
        have := hl.un a ha hN
        simp only [upd_ne _ _ hai]
        exact this
      · by_cases e : a = i
        · subst e; simp only [upd_same] at hne; exact absurd rfl hne
        · simp only [upd_ne _ _ e] at hne ⊢; exact hl.rn a ha hne
end
end Go.Proofs.YtmmjlngbiilagaaGreatDoor

/-
  A FAN-IN: the end, when the collector's list is handed to the starter; and whatever step of the collector's keeps the invariant or ends.
-/
namespace Go.Proofs.YtmmjlngbiilagaaGreatDoor
open Go Go.Conc
open Go.ConcR (KK wgBlock WgAt stA smA rd wr mk DC0 g_of_ofEvents)
open Go.ConcN (WgLive AtD4 WD CTag upd upd_same upd_ne sumTo sumTo_upd sumTo_congr le_sumTo get_map_set get_map_set_same norel_of RelBy RelBy.appOther RelBy.appNot RelBy.new Deaf_still Deaf_absent Vc cnt Vc_upd Vc_le OpenSt others_uncounted isW3 pend deafBehind_idle)

/-- What is handed over stands when a channel counts on. -/
def ResPut (X : Cx) : Prop := ∀ l v w c cap buf cl s r tm s' r', w.heap[c]? = some (.chan cap buf cl s r tm) → X.Res l v w → X.Res l v (w.setChan c cap buf cl s' r' tm)
/-- All received: a full list. -/
def FullOk (X : Cx) : Prop := ∀ l rem, Mrg X.N X.vals l rem → (∀ i, i < X.N → rem i = []) → X.Full l

def ShunE (X : Cx) (l : Loc) : Prop := X.Shun l ∨ blk l = some X.Wg

/-- BEHIND THE FAN-IN. -/
def EndF (X : Cx) (m : Machine) (t : Trace) : Prop :=
  ∃ (gs : Array Goroutine) (w : World) (sl : Option (Nat × Nat)) (a : Goroutine) (l : List Value) (v : Value) (q : Nat → Nat),
    m = crowd gs w sl ∧ gs[0]? = some a ∧ X.NextM v a w ∧ X.Full l ∧ X.Res l v w ∧ (Kd X.Nb X.B1 w ∧ ∀ b, ¬ X.Nb b → w.heap[b]? = X.H0[b]?) ∧ Leavers X.P t gs q ∧ Past (ShunE X) w.heap.size t ∧ ∀ op ∈ t, op.g < gs.size

/-- A step of the machine's that ends the fan-in. -/
def NEnd (X : Cx) (gs : Array Goroutine) (w : World) (sl : Option (Nat × Nat)) (t : Trace) (k : Nat) : Prop :=
  ∃ m₁ ops, runT X.P (crowd gs w sl) k = (.next m₁, ops) ∧ EndF X m₁ (t ++ ops)

section
variable {X : Cx} {V : Vx} {gs gs' : Array Goroutine} {w w' : World} {sl : Option (Nat × Nat)} {t u : Trace} {st sm : Int}

/-- The four operations of the last hand-over. -/
def lastOps (c k s : Nat) (fc f0 : FuncId) (pc p0 : String) : Trace :=
  #[{ g := k, fn := fc, pos := pc, act := .send c s }, { g := 0, fn := f0, pos := p0, act := .recv c s 0 }, { g := k, fn := fc, pos := pc, act := .sendDone c s }, { g := 0, fn := f0, pos := p0, act := .recvDone c s }]

theorem hb_last {k c s : Nat} {fc f0 : FuncId} {pc p0 : String} (hk : Deaf t k = 0) (h0 : Deaf t 0 = 0) {i : Nat} (hi : t.g? i = some k) :
    ∃ j, (t ++ lastOps c k s fc f0 pc p0).g? j = some 0 ∧ HappensBefore (t ++ lastOps c k s fc f0 pc p0) i j := by
  have hil := lt_of_g? hi
  have e0 : (t ++ lastOps c k s fc f0 pc p0)[t.size]? = some { g := k, fn := fc, pos := pc, act := .send c s } := by
    rw [Array.getElem?_append_right (by omega)]; simp [lastOps]
  have e3 : (t ++ lastOps c k s fc f0 pc p0)[t.size + 3]? = some { g := 0, fn := f0, pos := p0, act := .recvDone c s } := by
    rw [Array.getElem?_append_right (by omega)]; simp [lastOps]
  have hd : ∀ (g m : Nat), m ≤ 4 → (t ++ lastOps c k s fc f0 pc p0).deaf g (t.size + m) = Deaf t g := fun g m hm => by
    have key := Deaf_still t g ((lastOps c k s fc f0 pc p0).extract 0 m) (fun op hop => by
      have : op ∈ lastOps c k s fc f0 pc p0 := by
        obtain ⟨a, ha⟩ := Array.mem_iff_getElem?.1 hop
        rw [Array.getElem?_extract] at ha
        split at ha
        · exact Array.mem_of_getElem? ha
        · cases ha
      simp [lastOps] at this
      rcases this with rfl | rfl | rfl | rfl <;> exact ⟨by simp, by simp⟩)
    have hsz : (t ++ (lastOps c k s fc f0 pc p0).extract 0 m).size = t.size + m := by simp [lastOps]; omega
    have e : t ++ lastOps c k s fc f0 pc p0 = (t ++ (lastOps c k s fc f0 pc p0).extract 0 m) ++ (lastOps c k s fc f0 pc p0).extract m 4 := by
      rw [Array.append_assoc]
      congr 1
      have : (lastOps c k s fc f0 pc p0).size = 4 := rfl
      rw [← this, Array.extract_append_extract]
      simp [this, Nat.min_eq_left, Nat.max_eq_right hm]
      rw [← this]
      exact Array.extract_size.symm
    rw [e, deaf_old (by omega), ← hsz]
    exact key
  refine ⟨t.size + 3, by simp [Trace.g?, e3], .trans (.single (.inl ⟨hil, k, by rw [g?_old hil]; exact hi, by simp [Trace.g?, e0]⟩)) (.single (.inr ⟨.handOver (by rw [act?_of e0]) (by rw [act?_of e3]), ⟨k, by simp [Trace.g?, e0], ?_⟩, ⟨0, by simp [Trace.g?, e3], ?_⟩⟩))⟩
  · have := hd k 0 (by omega)
    rw [Nat.add_zero] at this
    rw [this]; exact hk
  · rw [hd 0 3 (by omega)]; exact h0

/-- ALL OF THEM HAVE HANDED OVER. -/
theorem finish (hPut : ResPut X) (hB : Bg X noH V gs w t) (hm : ConcN.Mode V.j V.D (toC V.tag) st sm) (hq : isPost V.tag → AcqA X V.j t) (hpost : isPost V.tag) (hc : V.hc = true) {s : Nat} (hch : w.heap[V.Cw]? = some (.chan 0 #[] false s s false))
    {v : Value} (hres : X.Res V.l v w) (hfull : X.Full V.l) {g0 gc : Goroutine} {q : Nat} (hn0 : X.NextM v g0 (w.setChan V.Cw 0 #[] false (s + 1) (s + 1) false)) (hqc : QuitsD X.P q 0 gc) (hd0 : V.d0 = 0)
    (hgs : ∀ k, k ≠ 0 → k ≠ X.L + 1 + X.N → gs'[k]? = gs[k]?) (hsz : gs'.size = gs.size) (h0 : gs'[0]? = some g0) (hgc : gs'[X.L + 1 + X.N]? = some gc) {k : Nat} {fn fc f0 : FuncId} {pos pc p0 : String} :
    EndF X (crowd gs' (w.setChan V.Cw 0 #[] false (s + 1) (s + 1) false) sl) (t ++ (MemOp.ofEvents k fn pos #[] ++ lastOps V.Cw (X.L + 1 + X.N) s fc f0 pc p0)) := by
  have e : MemOp.ofEvents k fn pos #[] ++ lastOps V.Cw (X.L + 1 + X.N) s fc f0 pc p0 = lastOps V.Cw (X.L + 1 + X.N) s fc f0 pc p0 := by
    have : MemOp.ofEvents k fn pos #[] = #[] := rfl
    rw [this]; simp
  rw [e]
  have hn := (hB.nC hc).1
  have hj := (hB.nC hc).2
  have hD0 : Deaf t 0 = 0 := (hB.dM id).trans hd0
  have hDc : Deaf t (X.L + 1 + X.N) = 0 := hB.dC hc id
  have hp : Plain X V.n w.heap.size (fun x => x = X.L + 1 + X.N ∨ x = 0) (lastOps V.Cw (X.L + 1 + X.N) s fc f0 pc p0) := by
    have := plain_meet (X := X) (B := w.heap.size) (n := V.n) (i := X.L + 1 + X.N) (j := 0) (c := V.Cw) (s := s) (r := s) (cap := 0) (fn := fn) (fn1 := fc) (fn2 := f0) (pos := pos) (p1 := pc) (p2 := p0) (by omega) (by omega) (heap_lt hch) k
    have e' : MemOp.ofEvents k fn pos #[] ++ lastOps V.Cw (X.L + 1 + X.N) s fc f0 pc p0 = lastOps V.Cw (X.L + 1 + X.N) s fc f0 pc p0 := e
    unfold lastOps at e' ⊢
    rwa [e'] at this
  have hT := hB.ti.plain hp
  have hdS : ∀ x, Deaf (t ++ lastOps V.Cw (X.L + 1 + X.N) s fc f0 pc p0) x = Deaf t x := fun x => Deaf_still t x _ hp.nd
  have hall : ∀ i, i < V.j → (V.D i).stage = 1 := by
    have e := post_ret hpost
    rw [e] at hm
    exact (hm.fin_inv trivial).1
  obtain ⟨qa, qact, qg, qh, hrels⟩ := hq hpost
  -- every counted touch of a new goroutine's is handed over
  have handed : ∀ i g, t.g? i = some g → X.L < g → t.counts i → ∃ j, (t ++ lastOps V.Cw (X.L + 1 + X.N) s fc f0 pc p0).g? j = some 0 ∧ HappensBefore (t ++ lastOps V.Cw (X.L + 1 + X.N) s fc f0 pc p0) i j := by
    intro i g hg hL hcn
    have hgn : g < V.n := by
      obtain ⟨op, ho, rfl⟩ := Option.map_eq_some_iff.1 hg
      exact hB.ti.gs op (mem_of_getElem? ho)
    by_cases e : g = X.L + 1 + X.N
    · rw [e] at hg
      exact hb_last hDc hD0 hg
    · obtain ⟨r, hr, hrq⟩ := hrels (g - (X.L + 1)) (by omega)
      have eg : X.L + 1 + (g - (X.L + 1)) = g := by omega
      rw [eg] at hr
      have edge : HappensBefore t r qa := .single (.inr ⟨.marked hrq (.inr hr.act) qact (fun k _ _ => hB.nor k), hr.heard, qh⟩)
      have hle : i ≤ r := Nat.le_of_not_lt fun hlt => hr.after i hlt hg hcn
      refine ⟨qa, by rw [g?_old (lt_of_g? qg)]; exact qg, hb_app _ ?_⟩
      rcases Nat.lt_or_ge i r with hlt | hge
      · exact .trans (.single (.inl ⟨hlt, g, hg, hr.g⟩)) edge
      · obtain rfl : i = r := by omega
        exact edge
  have oldT : ∀ {i : Nat} {x : Touch}, touchAt (t ++ lastOps V.Cw (X.L + 1 + X.N) s fc f0 pc p0) i = some x → i < t.size ∧ touchAt t i = some x := fun {i x} hx => by
    rcases touch_cases hx with h | ⟨_, op, _, hop, hx'⟩
    · exact h
    · rw [hp.nt op hop] at hx'; cases hx'
  have hA : Aside V.Cw w (w.setChan V.Cw 0 #[] false (s + 1) (s + 1) false) := Aside.put V.Cw w _
  refine ⟨gs', _, sl, g0, V.l, v, fun i => if i ≤ X.L then V.qo i else if i < X.L + 1 + X.N then (V.D (i - (X.L + 1))).fuel else q, rfl, h0, hn0, hfull, hPut _ _ _ _ _ _ _ _ _ _ _ _ hch hres, ⟨hB.kd.kd.setChan _ _ _ _ _ _ _, fun b hb => by
    obtain ⟨h1, h2, h3⟩ := hB.kd.dead b hb
    exact (hA.block b (fun e => by rw [e, (hB.chw (hB.hwC hc)).1] at h1; cases h1)).trans h3⟩, ⟨fun i g hi hg => ?_, fun x hx => ?_⟩, ⟨hT.clean, fun i a ha hmem => ?_, fun i g hg h0' hcn => ?_, (hdS 0).trans hD0, fun op hop => ?_⟩, fun op hop => by rw [hsz, hB.sz]; exact hT.gs op hop⟩
  · rw [hdS i]
    have hin := lt_of_get hg
    rw [hsz, hB.sz] at hin
    by_cases e : i = X.L + 1 + X.N
    · subst e
      rw [hgc] at hg
      cases hg
      rw [hDc, if_neg (by omega), if_neg (by omega)]
      exact hqc
    · rw [hgs i (by omega) e] at hg
      by_cases hL : i ≤ X.L
      · rw [if_pos hL]
        exact hB.old i g id hi hL hg
      · rw [if_neg hL, if_pos (by omega)]
        obtain ⟨x, hx, hs⟩ := hB.snd (i - (X.L + 1)) (by omega) id
        have ei : X.L + 1 + (i - (X.L + 1)) = i := by omega
        rw [ei] at hx
        rw [hx] at hg
        cases hg
        have hds := hB.dS (i - (X.L + 1)) (by omega) id
        rw [ei] at hds
        rw [hds]
        exact (SSit.quits hs (hall _ (by omega))).1
  · rw [hdS x]
    refine Deaf_absent fun i op hi hx' => ?_
    have := hB.ti.gs op (mem_of_getElem? hi)
    rw [hsz, hB.sz] at hx
    omega
  · obtain ⟨hlt, ha'⟩ := oldT ha
    rcases hB.ti.rest i a ha' hmem with h1 | ⟨h1, h2⟩ | ⟨g, hg, hL⟩
    · exact .inl (h1.app _)
    · exact .inr ⟨.inl h1, h2⟩
    · by_cases hk : a.kind = .atomic
      · exact .inr ⟨.inr (hB.ti.atom i a g ha' hg hL hk), hk⟩
      · obtain ⟨j, hj, hb⟩ := handed i g hg hL ⟨a, ha', hmem, .inl hk⟩
        obtain ⟨op, ho, hog⟩ := Option.map_eq_some_iff.1 hj
        exact .inl ⟨j, op, ho, hog, .inr hb⟩
  · have hlt : i < t.size := by
      obtain ⟨x, hx, _⟩ := hcn
      exact (oldT hx).1
    have hcn' := (counts_old hlt).1 hcn
    have hg' : t.g? i = some g := by rw [← g?_old hlt]; exact hg
    rcases Nat.lt_or_ge X.L g with hL | hL
    · exact handed i g hg' hL hcn'
    · obtain ⟨j, hj, hb⟩ := hB.ti.over i g hg' h0' hL hcn'
      exact ⟨j, by rw [g?_old (lt_of_g? hj)]; exact hj, hb_app _ hb⟩
  · rw [hA.size]
    exact hT.low op hop
end
end Go.Proofs.YtmmjlngbiilagaaGreatDoor
