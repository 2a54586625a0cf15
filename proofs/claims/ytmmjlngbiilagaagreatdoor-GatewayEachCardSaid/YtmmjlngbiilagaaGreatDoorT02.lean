/-
  A FAN-IN: THE MACHINE's STATE, all goroutines together: what holds of everybody at every moment, and how an own step of one of them leaves the others.
-/
import Derived.Test.YtmmjlngbiilagaaGreatDoorT01

namespace Go.Proofs.YtmmjlngbiilagaaGreatDoor
open Go Go.Conc
open Go.ConcR (KK wgBlock WgAt stA smA rd wr mk DC0 g_of_ofEvents)
open Go.ConcN (WgLive AtD4 WD CTag Mode upd upd_same upd_ne sumTo get_map_set get_map_set_same norel_of RelBy RelBy.appOther)

/-- What does not change. -/
structure Cx where
  P : Program
  ty : TypeId
  Wg : Nat
  Cm : Nat
  Q : Nat → Prop
  N : Nat
  vals : Nat → List Value
  Poss : List Value → Prop
  Full : List Value → Prop
  Res : List Value → Value → World → Prop
  NextM : Value → Goroutine → World → Prop
  tot : Nat
  L : Nat
  Shun : Loc → Prop
  B1 : Nat
  H0 : Array Obj

/-- What is not shunned. -/
def Cx.Nb (X : Cx) (b : Nat) : Prop := ∀ l, blk l = some b → ¬ X.Shun l
/-- What does. -/
structure Vx where
  j : Nat
  hc : Bool
  hw : Bool
  shut : Bool
  tag : MT
  f0 : Nat
  d0 : Nat
  O : Nat → Prop
  S : Nat → Prop
  Cw : Nat
  D : Nat → WD
  rem : Nat → List Value
  OS : Nat → Nat → Prop
  l : List Value
  cst : Nat
  cfu : Nat
  OC : Nat → Prop
  qo : Nat → Nat
  cl : Nat → Cls
  n : Nat

def Cx.ms (X : Cx) (V : Vx) : Goroutine → World → Prop :=
  MSit X.P X.ty X.Wg X.Cm X.Q X.N X.vals X.Poss X.Full X.Res X.NextM X.tot V.tag V.j V.f0 V.d0 V.O V.S V.Cw
def Cx.ss (X : Cx) (V : Vx) (i : Nat) : Goroutine → World → Prop := SSit X.P X.ty X.Wg X.Cm X.Q (V.rem i) (V.D i).stage (V.D i).fuel (V.D i).deaf (V.OS i)
def Cx.cs (X : Cx) (V : Vx) : Goroutine → World → Prop := CSit X.P X.ty X.Wg X.Cm V.S V.Cw X.Poss X.Full X.Res V.l (X.tot - V.l.length) V.cst V.cfu V.OC

/-- The kinds of what lies there. -/
structure KdX (X : Cx) (cl : Nat → Cls) (w : World) : Prop where
  kd : Kd X.Nb X.B1 w
  ow : ∀ b k, cl b = .own k → X.Nb b
  nb : ∀ b, X.B1 ≤ b → X.Nb b
  wB : X.B1 ≤ X.Wg
  dead : ∀ b, ¬ X.Nb b → cl b = .dead ∧ b < w.heap.size ∧ w.heap[b]? = X.H0[b]?
/-- Everybody but those in H. -/
structure Bg (X : Cx) (H : Nat → Prop) (V : Vx) (gs : Array Goroutine) (w : World) (t : Trace) : Prop where
  sz : gs.size = V.n
  nC : V.hc = true → V.n = X.L + 1 + X.N + 1 ∧ V.j = X.N
  nJ : V.hc = false → V.n = X.L + 1 + V.j
  hwC : V.hc = true → V.hw = true
  main : ¬ H 0 → ∃ a, gs[0]? = some a ∧ X.ms V a w
  fl : ¬ H 0 → (V.hc = true ↔ hasC V.tag) ∧ (V.hw = true ↔ hasW V.tag) ∧ V.shut = isShut V.tag
  dM : ¬ H 0 → Deaf t 0 = V.d0
  oM : ¬ H 0 → ∀ b, V.O b → V.cl b = .own 0 ∧ b < w.heap.size
  old : ∀ i g, ¬ H i → 0 < i → i ≤ X.L → gs[i]? = some g → QuitsD X.P (V.qo i) (Deaf t i) g
  snd : ∀ i, i < V.j → ¬ H (X.L + 1 + i) → ∃ g, gs[X.L + 1 + i]? = some g ∧ X.ss V i g w
  dS : ∀ i, i < V.j → ¬ H (X.L + 1 + i) → Deaf t (X.L + 1 + i) = (V.D i).deaf
  rel : ∀ i, i < V.j → ¬ H (X.L + 1 + i) → (V.D i).stage ≤ 6 → ∃ r, RelBy (stA X.Wg) t (X.L + 1 + i) r
  oS : ∀ i, i < V.j → ¬ H (X.L + 1 + i) → ∀ b, V.OS i b → V.cl b = .own (X.L + 1 + i) ∧ b < w.heap.size
  col : V.hc = true → ¬ H (X.L + 1 + X.N) → ∃ g, gs[X.L + 1 + X.N]? = some g ∧ X.cs V g w
  dC : V.hc = true → ¬ H (X.L + 1 + X.N) → Deaf t (X.L + 1 + X.N) = 0
  oC : V.hc = true → ¬ H (X.L + 1 + X.N) → ∀ b, V.OC b → V.cl b = .own (X.L + 1 + X.N) ∧ b < w.heap.size
  ti : TI X.Shun V.cl X.Wg X.L V.n w.heap.size t
  nor : NoRelease (stA X.Wg) t
  clW : V.cl X.Wg = .sh
  clM : V.cl X.Cm = .sh
  neM : X.Cm ≠ X.Wg
  clQ : ∀ b, X.Q b → (∃ k, k ≤ X.L + 1 ∧ V.cl b = .ro k) ∧ b < w.heap.size
  clS : V.hc = true → ∀ b, V.S b → (∃ k, k ≤ X.L + 1 + X.N ∧ V.cl b = .ro k) ∧ b < w.heap.size
  live : WgLive X.ty X.Wg w
  chm : ∃ s r, w.heap[X.Cm]? = some (.chan 0 #[] V.shut s r false)
  chw : V.hw = true → V.cl V.Cw = .sh ∧ V.Cw ≠ X.Wg ∧ V.Cw ≠ X.Cm ∧ ∃ s, w.heap[V.Cw]? = some (.chan 0 #[] false s s false)
  kd : KdX X V.cl w

section
variable {X : Cx} {H H' : Nat → Prop} {V : Vx} {gs : Array Goroutine} {w w' : World} {t : Trace}

theorem Bg.less (h : Bg X H V gs w t) (hH : ∀ k, H k → H' k) : Bg X H' V gs w t :=
  ⟨h.sz, h.nC, h.nJ, h.hwC, fun x => h.main (x ∘ hH 0), fun x => h.fl (x ∘ hH 0), fun x => h.dM (x ∘ hH 0), fun x => h.oM (x ∘ hH 0), fun i g x => h.old i g (x ∘ hH i), fun i hi x => h.snd i hi (x ∘ hH _), fun i hi x => h.dS i hi (x ∘ hH _),
    fun i hi x => h.rel i hi (x ∘ hH _), fun i hi x => h.oS i hi (x ∘ hH _), fun hc x => h.col hc (x ∘ hH _), fun hc x => h.dC hc (x ∘ hH _), fun hc x => h.oC hc (x ∘ hH _), h.ti, h.nor, h.clW, h.clM, h.neM, h.clQ, h.clS, h.live, h.chm, h.chw, h.kd⟩

theorem lt_of_get {gs : Array Goroutine} {k : Nat} {g : Goroutine} (h : gs[k]? = some g) : k < gs.size := (Array.getElem?_eq_some_iff.1 h).1

theorem heap_lt {w : World} {b : Nat} {o : Obj} (h : w.heap[b]? = some o) : b < w.heap.size := (Array.getElem?_eq_some_iff.1 h).1

/-- What a step of goroutine k's may do to the world and the trace. -/
structure Eff (X : Cx) (V : Vx) (k : Nat) (w w' : World) (cl' : Nat → Cls) (t' : Trace) : Prop where
  tape : w'.tape = w.tape
  os : w'.os = w.os
  output : w'.output = w.output
  size : w.heap.size ≤ w'.heap.size
  block : ∀ b, b < w.heap.size → V.cl b ≠ .own k → V.cl b ≠ .sh → w'.heap[b]? = w.heap[b]?
  live : WgLive X.ty X.Wg w'
  cls : ∀ b, b < w.heap.size → cl' b = V.cl b
  ti : TI X.Shun cl' X.Wg X.L V.n w'.heap.size t'
  nor : NoRelease (stA X.Wg) t'
  chm : ∃ s r, w'.heap[X.Cm]? = some (.chan 0 #[] V.shut s r false)
  chw : V.hw = true → ∃ s, w'.heap[V.Cw]? = some (.chan 0 #[] false s s false)
  still : V.hc = true → V.cst ≤ 3 → k ≠ X.L + 1 + X.N → AtRel w w'
  kd : Kd X.Nb X.B1 w'

/-- The rely of somebody else, out of that. -/
theorem Eff.rl {k x : Nat} {cl' : Nat → Cls} {t' : Trace} {S : Nat → Prop} (h : Eff X V k w w' cl' t') (hx : x ≠ k) (hS : ∀ b, S b → (V.cl b = .own x ∨ ∃ m, V.cl b = .ro m) ∧ b < w.heap.size) : Rl X.ty X.Wg S w w' :=
  ⟨h.tape, h.os, h.output, h.size, (fun b hb => by
    obtain ⟨hc, hl⟩ := hS b hb
    refine h.block b hl (fun e => ?_) (fun e => ?_)
    · rcases hc with hc | ⟨m, hc⟩
      · rw [hc] at e; cases e; exact hx rfl
      · rw [hc] at e; cases e
    · rcases hc with hc | ⟨m, hc⟩
      · rw [hc] at e; cases e
      · rw [hc] at e; cases e), fun _ => h.live⟩

/-- Res of what is handed over is a fact on memory alone. -/
def ResOk (X : Cx) : Prop := ∀ l v w d, X.Res l v w → X.Res l v (w.at d)

/-- AN OWN STEP OF GOROUTINE k: everybody else stands where it stood (the starter, blocked, may be let try again). -/
theorem Bg.go {k : Nat} {g g' : Goroutine} {es : Array Event} {cl' : Nat → Cls} (hRes : ResOk X) (hB : Bg X (· = k) V gs w t) (hg : gs[k]? = some g)
    (hE : Eff X V k w w' cl' (t ++ MemOp.ofEvents k g.frame.fn g.frame.place es))
    (hS7 : V.shut = true → ∀ i, i < V.j → (V.D i).stage = 7 → V.rem i = [])
    (hC4 : V.shut = true → V.hc = true → V.cst = 4 → V.cfu ≠ 0) :
    ∃ tag' f', Bg X (· = k) { V with tag := tag', f0 := f', cl := cl' } ((gs.map (woken X.P g g' w')).setIfInBounds k g') w' (t ++ MemOp.ofEvents k g.frame.fn g.frame.place es) ∧
      ((gs.map (woken X.P g g' w')).setIfInBounds k g')[k]? = some g' ∧ f' ≤ V.f0 + 1 ∧ ((tag' = V.tag ∧ f' = V.f0) ∨ (k ≠ 0 ∧ V.tag = .blk ∧ tag' = .w3)) ∧ (mayWake X.P g = true → g'.status = .running → k ≠ 0 → tag' ≠ .blk) := by
  have hlt := lt_of_get hg
  have hn0 : 0 < gs.size := by omega
  obtain ⟨sm', rm', hm'⟩ := hE.chm
  have eqcl : ∀ {b c}, b < w.heap.size → V.cl b = c → cl' b = c := fun hb hc => (hE.cls _ hb).trans hc
  have hM : k ≠ 0 → ∃ tag' f' a', ((gs.map (woken X.P g g' w')).setIfInBounds k g')[0]? = some a' ∧ X.ms { V with tag := tag', f0 := f', cl := cl' } a' w' ∧ f' ≤ V.f0 + 1 ∧ ((tag' = V.tag ∧ f' = V.f0) ∨ (V.tag = .blk ∧ tag' = .w3)) ∧ (mayWake X.P g = true → g'.status = .running → tag' ≠ .blk) := by
    intro hk
    obtain ⟨a, ha, hs⟩ := hB.main (Ne.symm hk)
    obtain ⟨f1, f2, f3⟩ := hB.fl (Ne.symm hk)
    have hs' := MSit.rely hs (hE.rl (x := 0) (Ne.symm hk) fun b hb => hb.elim (fun ho => ⟨.inl (hB.oM (Ne.symm hk) b ho).1, (hB.oM (Ne.symm hk) b ho).2⟩) fun hq => ⟨.inr ⟨_, (hB.clQ b hq).1.choose_spec.2⟩, (hB.clQ b hq).2⟩)
      (fun hc => hE.rl (x := 0) (Ne.symm hk) fun b hb => ⟨.inr ⟨_, (hB.clS (f1.2 hc) b hb).1.choose_spec.2⟩, (hB.clS (f1.2 hc) b hb).2⟩)
    have hcw : V.tag = .prw → ∃ s, w'.heap[V.Cw]? = some (.chan 0 #[] false s s false) := fun e => hE.chw (f2.2 (by rw [e]; exact trivial))
    by_cases hp : V.tag = .prw
    · obtain ⟨s1, h1⟩ := hcw hp
      obtain ⟨tag', f', h1, h2, h3, h4⟩ := hs'.wokenBy g g' (fun _ => h1)
      exact ⟨tag', f', _, by rw [get_map_set _ _ _ _ hk, ha]; rfl, h1, h2, h3.imp id id, h4⟩
    · obtain ⟨tag', f', h1, h2, h3, h4⟩ := hs'.wokenBy g g' (s' := 0) (r' := 0) (tm := false) (fun e => absurd e hp)
      exact ⟨tag', f', _, by rw [get_map_set _ _ _ _ hk, ha]; rfl, h1, h2, h3.imp id id, h4⟩
  have hOld : ∀ i x, i ≠ k → 0 < i → i ≤ X.L → ((gs.map (woken X.P g g' w')).setIfInBounds k g')[i]? = some x → QuitsD X.P (V.qo i) (Deaf (t ++ MemOp.ofEvents k g.frame.fn g.frame.place es) i) x := by
    intro i x hik h0 hL hx
    rw [get_map_set _ _ _ _ (Ne.symm hik)] at hx
    obtain ⟨y, hy, rfl⟩ := Option.map_eq_some_iff.1 hx
    have hq := hB.old i y hik h0 hL hy
    rw [woken_quitsD hq, Deaf_other t (Ne.symm hik) _ g_of_ofEvents]
    exact hq
  have hSnd : ∀ i, i < V.j → X.L + 1 + i ≠ k → ∃ x, ((gs.map (woken X.P g g' w')).setIfInBounds k g')[X.L + 1 + i]? = some x ∧ X.ss V i x w' := by
    intro i hi hik
    obtain ⟨x, hx, hs⟩ := hB.snd i hi hik
    have hs' := SSit.rely hs (hE.rl (x := X.L + 1 + i) hik fun b hb => hb.elim (fun ho => ⟨.inl (hB.oS i hi hik b ho).1, (hB.oS i hi hik b ho).2⟩) fun hq => ⟨.inr ⟨_, (hB.clQ b hq).1.choose_spec.2⟩, (hB.clQ b hq).2⟩)
    refine ⟨x, ?_, hs'⟩
    rw [get_map_set _ _ _ _ (Ne.symm hik), hx, Option.map_some]
    congr 1
    refine hs.woken g g' w' (s' := sm') (r' := rm') (tm := false) fun h7 hr => ?_
    have : V.shut = false := by
      cases e : V.shut with
      | false => rfl
      | true => exact absurd (hS7 e i hi h7) hr
    rw [hm', this]
  have hCol : V.hc = true → X.L + 1 + X.N ≠ k → ∃ x, ((gs.map (woken X.P g g' w')).setIfInBounds k g')[X.L + 1 + X.N]? = some x ∧ X.cs V x w' := by
    intro hc hik
    obtain ⟨x, hx, hs⟩ := hB.col hc hik
    have hs' : X.cs V x w' := CSit.rely hs (fun _ => hE.rl (x := X.L + 1 + X.N) hik fun b hb => hb.elim (fun ho => ⟨.inl (hB.oC hc hik b ho).1, (hB.oC hc hik b ho).2⟩) fun hq => ⟨.inr ⟨_, (hB.clS hc b hq).1.choose_spec.2⟩, (hB.clS hc b hq).2⟩)
      (fun h3 => hE.still hc (by omega) (Ne.symm hik)) (fun v h2 hr => by obtain ⟨d, rfl⟩ := hE.still hc (by omega) (Ne.symm hik); exact hRes _ _ _ d hr)
    refine ⟨x, ?_, hs'⟩
    rw [get_map_set _ _ _ _ (Ne.symm hik), hx, Option.map_some]
    congr 1
    rcases hs.status with h1 | ⟨h1, _⟩ | ⟨hf, h4, g₀, z, rfl⟩ | ⟨hf, h2, g₀, v, z, rfl⟩
    · exact woken_run h1
    · unfold Go.Conc.woken
      split
      · exact again_running _ (.inr h1)
      · rfl
    · have : V.shut = false := by
        cases e : V.shut with
        | false => rfl
        | true => exact absurd hf (hC4 e hc h4)
      rw [this] at hm'
      exact woken_recv_open g g' hm'
    · by_cases hw : V.hw = true
      · obtain ⟨s1, h1⟩ := hE.chw hw
        exact woken_parked_send h1
      · -- the collector is there, so its channel is
        obtain ⟨d, rfl⟩ := hE.still hc (by omega) (Ne.symm hik)
        exact (hw (hB.hwC hc)).elim
  have hgk : ((gs.map (woken X.P g g' w')).setIfInBounds k g')[k]? = some g' := get_map_set_same _ _ _ hlt
  have hrel : ∀ i, i < V.j → X.L + 1 + i ≠ k → (V.D i).stage ≤ 6 → ∃ r, RelBy (stA X.Wg) (t ++ MemOp.ofEvents k g.frame.fn g.frame.place es) (X.L + 1 + i) r := fun i hi hik hs => by
    obtain ⟨r, hr⟩ := hB.rel i hi hik hs
    exact ⟨r, hr.appOther g_of_ofEvents (Ne.symm hik)⟩
  have grow : ∀ {b : Nat} {c : Cls}, V.cl b = c ∧ b < w.heap.size → cl' b = c ∧ b < w'.heap.size := fun h => ⟨eqcl h.2 h.1, Nat.lt_of_lt_of_le h.2 hE.size⟩
  have growQ : ∀ {b x : Nat}, (∃ k, k ≤ x ∧ V.cl b = .ro k) ∧ b < w.heap.size → (∃ k, k ≤ x ∧ cl' b = .ro k) ∧ b < w'.heap.size := fun h => ⟨⟨_, h.1.choose_spec.1, eqcl h.2 h.1.choose_spec.2⟩, Nat.lt_of_lt_of_le h.2 hE.size⟩
  have hWlt : X.Wg < w.heap.size := by
    obtain ⟨_, _, h⟩ := hB.live
    exact heap_lt h
  have hCmlt : X.Cm < w.heap.size := by
    obtain ⟨_, _, h⟩ := hB.chm
    exact heap_lt h
  -- all but what is said of the starter
  have key : ∀ (tag' : MT) (f' : Nat), (k ≠ 0 → ∃ a', ((gs.map (woken X.P g g' w')).setIfInBounds k g')[0]? = some a' ∧ X.ms { V with tag := tag', f0 := f', cl := cl' } a' w') →
      (k ≠ 0 → (V.hc = true ↔ hasC tag') ∧ (V.hw = true ↔ hasW tag') ∧ V.shut = isShut tag') →
      Bg X (· = k) { V with tag := tag', f0 := f', cl := cl' } ((gs.map (woken X.P g g' w')).setIfInBounds k g') w' (t ++ MemOp.ofEvents k g.frame.fn g.frame.place es) := by
    intro tag' f' hm1 hm2
    refine ⟨by simp [hB.sz], hB.nC, hB.nJ, hB.hwC, fun h0 => hm1 (Ne.symm h0), fun h0 => hm2 (Ne.symm h0), fun h0 => ?_, fun h0 b hb => grow (hB.oM h0 b hb), fun i x hik => hOld i x hik, fun i hi hik => hSnd i hi hik, fun i hi hik => ?_, fun i hi hik => hrel i hi hik,
      fun i hi hik b hb => grow (hB.oS i hi hik b hb), fun hc hik => hCol hc hik, fun hc hik => ?_, fun hc hik b hb => grow (hB.oC hc hik b hb), hE.ti, hE.nor, eqcl hWlt hB.clW, eqcl hCmlt hB.clM, hB.neM, fun b hb => growQ (hB.clQ b hb), fun hc b hb => growQ (hB.clS hc b hb), hE.live, hE.chm, fun hw => ?_, ⟨hE.kd, fun b k hb => (Nat.lt_or_ge b w.heap.size).elim (fun hl => hB.kd.ow b k ((hE.cls b hl) ▸ hb)) fun hl => hB.kd.nb b (Nat.le_trans (Nat.le_of_lt (Nat.lt_of_le_of_lt hB.kd.wB hWlt)) hl), hB.kd.nb, hB.kd.wB, fun b hb => by
      obtain ⟨h1, h2, h3⟩ := hB.kd.dead b hb
      exact ⟨eqcl h2 h1, Nat.lt_of_lt_of_le h2 hE.size, (hE.block b h2 (by rw [h1]; simp) (by rw [h1]; simp)).trans h3⟩⟩⟩
    · rw [Deaf_other t (Ne.symm h0) _ g_of_ofEvents]; exact hB.dM h0
    · rw [Deaf_other t (Ne.symm hik) _ g_of_ofEvents]; exact hB.dS i hi hik
    · rw [Deaf_other t (Ne.symm hik) _ g_of_ofEvents]; exact hB.dC hc hik
    · obtain ⟨h1, h2, h3, s1, h4⟩ := hB.chw hw
      exact ⟨eqcl (heap_lt h4) h1, h2, h3, hE.chw hw⟩
  by_cases hk : k = 0
  · exact ⟨V.tag, V.f0, key _ _ (fun h => absurd hk h) (fun h => absurd hk h), hgk, by omega, .inl ⟨rfl, rfl⟩, fun _ _ h => absurd hk h⟩
  · obtain ⟨tag', f', a', h1, h2, h3, h4, h5⟩ := hM hk
    refine ⟨tag', f', key tag' f' (fun _ => ⟨a', h1, h2⟩) (fun _ => ?_), hgk, h3, h4.imp id (fun x => ⟨hk, x.1, x.2⟩), fun a b _ => h5 a b⟩
    obtain ⟨f1, f2, f3⟩ := hB.fl (Ne.symm hk)
    rcases h4 with ⟨rfl, rfl⟩ | ⟨e, rfl⟩
    · exact ⟨f1, f2, f3⟩
    · rw [e] at f1 f2 f3
      exact ⟨f1, f2, f3⟩
end
end Go.Proofs.YtmmjlngbiilagaaGreatDoor

/-
  A FAN-IN: THE INVARIANT, its measure, and the four kinds of own steps (a sender's, the starter's, the collector's, an old leaver's) once their ingredients are given.
-/
namespace Go.Proofs.YtmmjlngbiilagaaGreatDoor
open Go Go.Conc
open Go.ConcR (KK wgBlock WgAt stA smA rd wr mk DC0 g_of_ofEvents)
open Go.ConcN (WgLive AtD4 WD CTag Mode upd upd_same upd_ne sumTo sumTo_upd sumTo_congr get_map_set get_map_set_same norel_of RelBy RelBy.appOther Vc cnt Vc_upd)

/-! ### what the listed entries are to the trace's law -/
section
variable {X : Cx} {cl : Nat → Cls} {n k : Nat} {w w' : World} {t : Trace} {es : Array Event} {fn : FuncId} {pos : String}

theorem mem_ofE {op : MemOp} (h : op ∈ MemOp.ofEvents k fn pos es) : ∃ e ∈ es, op = { g := k, fn, pos, act := .ofEvent e } := Go.Conc.mem_ofEvents h

/-- An own step, the new blocks classed: kept ones are the goroutine's own, the others shared. -/
theorem ti_own {O O' Qk : Nat → Prop} (hti : TI X.Shun cl X.Wg X.L n w.heap.size t) (hk : k = 0 ∨ X.L < k) (hkn : k < n) (hD : DOx O O' Qk w w' es)
    (hO : ∀ b, O b → cl b = .own k ∧ b < w.heap.size) (hQ : ∀ b, Qk b → (∃ m, cl b = .ro m ∧ (k = 0 ∨ m ≤ k)) ∧ b < w.heap.size) :
    ∃ cl' : Nat → Cls, (∀ b, b < w.heap.size → cl' b = cl b) ∧ (∀ b, O' b → cl' b = .own k ∧ b < w'.heap.size) ∧ (∀ b, w.heap.size ≤ b → b < w'.heap.size → ¬ O' b → cl' b = .sh) ∧
      TI X.Shun cl' X.Wg X.L n w'.heap.size (t ++ MemOp.ofEvents k fn pos es) := by
  classical
  have hO' := hD.keep
  refine ⟨fun b => if b < w.heap.size then cl b else if O' b then .own k else .sh, fun b hb => by simp [hb], fun b hb => ?_, fun b h1 h2 h3 => by simp [Nat.not_lt.2 h1, h3], ?_⟩
  · rcases hO' b hb with h | ⟨h1, h2⟩
    · exact ⟨by simp [(hO b h).2, (hO b h).1], Nat.lt_of_lt_of_le (hO b h).2 hD.size⟩
    · exact ⟨by simp [Nat.not_lt.2 h1, hb], h2⟩
  · refine (hti.recl hD.size fun b hb => by simp [hb]).app hk hkn g_of_ofEvents (fun op hop => ?_) (fun op hop => ?_)
    · obtain ⟨e, he, rfl⟩ := mem_ofE hop
      have hev := hD.ev e he
      obtain ⟨loc, wr, sy⟩ := e
      intro x hx
      cases loc with
      | cell a =>
        simp only [EvP] at hev
        obtain ⟨rfl, hev⟩ := hev
        have e1 : MemAct.ofEvent ⟨.cell a, wr, false⟩ = .access ⟨.cell a, wr, false⟩ := rfl
        rw [e1] at hx
        simp only [MemAct.touch?, Option.some.injEq, Bool.false_eq_true, if_false] at hx
        subst hx
        refine ⟨a.block, rfl, (fun _ h => by cases h), ?_⟩
        rcases hev with (h | h) | ⟨hq, hw⟩
        · exact .inl (by simp [(hO _ h).2, (hO _ h).1])
        · rcases hO' _ h with h | ⟨h1, _⟩
          · exact .inl (by simp [(hO _ h).2, (hO _ h).1])
          · exact .inl (by simp [Nat.not_lt.2 h1, h])
        · obtain ⟨⟨m, hm, hmk⟩, hb⟩ := hQ _ hq
          exact .inr (.inl ⟨hw, m, by simp [hb, hm], hmk⟩)
      | obj r =>
        simp only [EvP] at hev
        obtain ⟨rfl, hev⟩ := hev
        have e1 : MemAct.ofEvent ⟨.obj r, wr, false⟩ = .access ⟨.obj r, wr, false⟩ := by cases wr <;> rfl
        rw [e1] at hx
        simp only [MemAct.touch?, Option.some.injEq, Bool.false_eq_true, if_false] at hx
        subst hx
        refine ⟨r, rfl, (fun _ h => by cases h), ?_⟩
        rcases hev with (h | h) | ⟨hq, hw⟩
        · exact .inl (by simp [(hO _ h).2, (hO _ h).1])
        · rcases hO' _ h with h | ⟨h1, _⟩
          · exact .inl (by simp [(hO _ h).2, (hO _ h).1])
          · exact .inl (by simp [Nat.not_lt.2 h1, h])
        · obtain ⟨⟨m, hm, hmk⟩, hb⟩ := hQ _ hq
          exact .inr (.inl ⟨hw, m, by simp [hb, hm], hmk⟩)
      | mark m =>
        have e1 : MemAct.ofEvent ⟨.mark m, wr, sy⟩ = .mark m := by cases wr <;> cases sy <;> rfl
        rw [e1, Neutral.touch hev] at hx
        cases hx
      | output => exact hev.elim
      | goroutines => exact hev.elim
    · obtain ⟨e, he, rfl⟩ := mem_ofE hop
      have hev := hD.ev e he
      obtain ⟨loc, wr, sy⟩ := e
      cases loc with
      | cell a =>
        simp only [EvP] at hev
        obtain ⟨rfl, hev⟩ := hev
        have hb : a.block < w'.heap.size := by
          rcases hev with (h | h) | ⟨h, _⟩
          · exact Nat.lt_of_lt_of_le (hO _ h).2 hD.size
          · rcases hO' _ h with h | h
            · exact Nat.lt_of_lt_of_le (hO _ h).2 hD.size
            · exact h.2
          · exact Nat.lt_of_lt_of_le (hQ _ h).2 hD.size
        exact hb
      | obj r =>
        simp only [EvP] at hev
        obtain ⟨rfl, hev⟩ := hev
        have hb : r < w'.heap.size := by
          rcases hev with (h | h) | ⟨h, _⟩
          · exact Nat.lt_of_lt_of_le (hO _ h).2 hD.size
          · rcases hO' _ h with h | h
            · exact Nat.lt_of_lt_of_le (hO _ h).2 hD.size
            · exact h.2
          · exact Nat.lt_of_lt_of_le (hQ _ h).2 hD.size
        have e1 : MemAct.ofEvent ⟨.obj r, wr, false⟩ = .access ⟨.obj r, wr, false⟩ := by cases wr <;> rfl
        rw [e1]; exact hb
      | mark m =>
        have e1 : MemAct.ofEvent ⟨.mark m, wr, sy⟩ = .mark m := by cases wr <;> cases sy <;> rfl
        have hm : m = .noRoom := hev
        rw [e1, hm]; trivial
      | output => exact hev.elim
      | goroutines => exact hev.elim

/-- What may be listed where the library keeps its books: its words on the group; atomic steps of the group's cells; and, by the starter, 'take it that I read | write here'. -/
def Bw (Wg k : Nat) (e : Event) : Prop :=
  e = mk .disable ∨ e = mk .enable ∨ e = mk (.releaseMerge (stA Wg)) ∨ e = mk (.acquire (stA Wg)) ∨ (∃ a wr, e = ⟨.cell a, wr, true⟩ ∧ a.block = Wg) ∨ (k = 0 ∧ (e = mk (.read (smA Wg)) ∨ e = mk (.write (smA Wg))))

theorem Bw.norel {Wg : Nat} {e : Event} (h : Bw Wg k e) : e.loc ≠ .mark (.release (stA Wg)) := by
  rcases h with rfl | rfl | rfl | rfl | ⟨a, wr, rfl, _⟩ | ⟨_, rfl | rfl⟩ <;> simp [mk]

theorem ti_book (hti : TI X.Shun cl X.Wg X.L n w.heap.size t) (hk : k = 0 ∨ X.L < k) (hkn : k < n) (hW : cl X.Wg = .sh) (hWl : X.Wg < w.heap.size) (hes : ∀ e ∈ es, Bw X.Wg k e) :
    TI X.Shun cl X.Wg X.L n w.heap.size (t ++ MemOp.ofEvents k fn pos es) := by
  refine hti.app hk hkn g_of_ofEvents (fun op hop => ?_) (fun op hop => ?_)
  · obtain ⟨e, he, rfl⟩ := mem_ofE hop
    intro x hx
    rcases hes e he with rfl | rfl | rfl | rfl | ⟨a, wr, rfl, ha⟩ | ⟨h0, rfl | rfl⟩
    · cases hx
    · cases hx
    · cases hx
    · cases hx
    · have e1 : MemAct.ofEvent ⟨.cell a, wr, true⟩ = .access ⟨.cell a, wr, true⟩ := rfl
      rw [e1] at hx
      simp only [MemAct.touch?, Option.some.injEq, if_true] at hx
      subst hx
      exact ⟨a.block, rfl, fun _ _ => ha, .inr (.inr ⟨by rw [ha]; exact hW, by simp, fun h => by cases h⟩)⟩
    · have e1 : (MemAct.ofEvent (mk (.read (smA X.Wg)))).touch? = some ⟨.cell (smA X.Wg), false, .said⟩ := rfl
      rw [e1] at hx
      cases hx
      exact ⟨X.Wg, rfl, (fun _ h => by cases h), .inr (.inr ⟨hW, by simp, fun _ => h0⟩)⟩
    · have e1 : (MemAct.ofEvent (mk (.write (smA X.Wg)))).touch? = some ⟨.cell (smA X.Wg), true, .said⟩ := rfl
      rw [e1] at hx
      cases hx
      exact ⟨X.Wg, rfl, (fun _ h => by cases h), .inr (.inr ⟨hW, by simp, fun _ => h0⟩)⟩
  · obtain ⟨e, he, rfl⟩ := mem_ofE hop
    rcases hes e he with rfl | rfl | rfl | rfl | ⟨a, wr, rfl, ha⟩ | ⟨h0, rfl | rfl⟩
    · trivial
    · trivial
    · exact hWl
    · exact hWl
    · have : a.block < w.heap.size := by rw [ha]; exact hWl
      exact this
    · exact hWl
    · exact hWl
end

/-! ### what is received, what is left -/
inductive Mrg (N : Nat) (vals : Nat → List Value) : List Value → (Nat → List Value) → Prop
  | nil : Mrg N vals [] vals
  | take {l : List Value} {rem : Nat → List Value} {i : Nat} {v : Value} {vs : List Value} : Mrg N vals l rem → i < N → rem i = v :: vs → Mrg N vals (l ++ [v]) (upd rem i vs)

def phi (N c : Nat) : MT → Nat
  | .sp r s => 8 * N + 40 + 8 * r + s
  | .gc s => 8 * N + 30 + s
  | .kd => 8 * N + 25
  | .anch => 8 * c + 16
  | .w1 => 8 * c + 15
  | .w2 vs => 8 * vs + 14
  | .wsd => 13
  | .w3 => 12
  | .blk => 12
  | .w4 => 11
  | .ke => 10
  | .acq => 9
  | .cl => 8
  | .rw => 7
  | .prw => 7

theorem phi_mono (N : Nat) {c c' : Nat} (h : c' ≤ c) (tag : MT) : phi N c' tag ≤ phi N c tag := by cases tag <;> simp only [phi] <;> omega

def wgt (X : Cx) (V : Vx) : Nat := sumTo X.N fun i => (V.D i).stage + (V.rem i).length
def fsum (X : Cx) (V : Vx) : Nat := sumTo X.N fun i => (V.D i).fuel
def osum (X : Cx) (V : Vx) : Nat := sumTo (X.L + 1) V.qo
def meas (X : Cx) (V : Vx) : Nat × Nat := (phi X.N (Vc V.j V.D) V.tag + wgt X V + V.cst, V.f0 + 2 * (fsum X V + V.cfu + osum X V))
def LtM : Nat × Nat → Nat × Nat → Prop := Prod.Lex (· < ·) (· < ·)
theorem ltM_wf : WellFounded LtM := (Prod.lex Nat.lt_wfRel Nat.lt_wfRel).wf

structure Lk (X : Cx) (V : Vx) : Prop where
  mrg : Mrg X.N X.vals V.l V.rem
  cnt : V.l.length + sumTo X.N (fun i => (V.rem i).length) = X.tot
  un : ∀ i, V.j ≤ i → i < X.N → V.rem i = X.vals i ∧ (V.D i).stage = 7 ∧ (V.D i).fuel = 0
  jN : V.j ≤ X.N
  nc : V.hc = false → V.cst = 4 ∧ V.cfu = 0 ∧ V.l = []
  c4 : V.cst = 4 ∨ V.cst = 3 ∨ V.cst = 2
  sh : V.cst ≤ 3 → V.shut = true
  ex1 : V.hc = true → V.cst = 4 → V.cfu = 0 → ∀ i, i < V.j → V.rem i ≠ [] → (V.D i).fuel ≠ 0
  ex2 : V.tag = .prw → V.cst ≠ 2
  rn : ∀ i, i < V.j → (V.D i).stage ≠ 7 → V.rem i = []
  c40 : V.shut = true → V.hc = true → V.cst = 4 → V.cfu ≠ 0

/-- The starter has said 'acquire', hearing, behind every sender's release. -/
def AcqA (X : Cx) (j : Nat) (t : Trace) : Prop :=
  ∃ q, t.act? q = some (.mark (.acquire (stA X.Wg))) ∧ t.g? q = some 0 ∧ t.heard q ∧ ∀ i, i < j → ∃ r, RelBy (stA X.Wg) t (X.L + 1 + i) r ∧ r < q

theorem AcqA.app {X : Cx} {j : Nat} {t u : Trace} (h : AcqA X j t) (hu : ∀ i r, i < j → RelBy (stA X.Wg) t (X.L + 1 + i) r → RelBy (stA X.Wg) (t ++ u) (X.L + 1 + i) r) : AcqA X j (t ++ u) := by
  obtain ⟨q, h1, h2, h3, h4⟩ := h
  have hq := lt_of_act? h1
  exact ⟨q, by rw [act?_old hq]; exact h1, by rw [g?_old hq]; exact h2, (heard_old hq).2 h3, fun i hi => let ⟨r, hr, hrq⟩ := h4 i hi; ⟨r, hu i r hi hr, hrq⟩⟩

def noH : Nat → Prop := fun _ => False

def Inv (X : Cx) (μ : Nat × Nat) (m : Machine) (t : Trace) : Prop :=
  ∃ (gs : Array Goroutine) (w : World) (sl : Option (Nat × Nat)) (V : Vx) (st sm : Int),
    m = crowd gs w sl ∧ Bg X noH V gs w t ∧ WgAt X.ty X.Wg w st sm ∧ ConcN.Mode V.j V.D (toC V.tag) st sm ∧ (isPost V.tag → AcqA X V.j t) ∧ Lk X V ∧ μ = meas X V

/-- A step of the machine's that keeps the invariant and lowers the measure. -/
def Nxt (X : Cx) (V : Vx) (gs : Array Goroutine) (w : World) (sl : Option (Nat × Nat)) (t : Trace) (k : Nat) : Prop :=
  ∃ m₁ ops μ', runT X.P (crowd gs w sl) k = (.next m₁, ops) ∧ LtM μ' (meas X V) ∧ Inv X μ' m₁ (t ++ ops)

section
variable {X : Cx} {V : Vx} {gs : Array Goroutine} {w w' : World} {sl : Option (Nat × Nat)} {t : Trace} {st sm st' sm' : Int}

theorem shut_post {tag : MT} (h : isShut tag = true) : toC tag = .ret := by cases tag <;> simp_all [isShut, toC]

/-- Once the channel is closed every sender only leaves. -/
theorem allQuit (hB : Bg X noH V gs w t) (hm : ConcN.Mode V.j V.D (toC V.tag) st sm) (h : V.shut = true) : ∀ i, i < V.j → (V.D i).stage = 1 := by
  have e := shut_post ((hB.fl id).2.2 ▸ h)
  rw [e] at hm
  exact (hm.fin_inv trivial).1

theorem Bg.s7 (hB : Bg X noH V gs w t) (hm : ConcN.Mode V.j V.D (toC V.tag) st sm) (h : V.shut = true) : ∀ i, i < V.j → (V.D i).stage = 7 → V.rem i = [] := fun i hi h7 => by
  have := allQuit hB hm h i hi
  omega

/-- AN OLD LEAVER's STEP, or any that only leaves. -/
theorem stepO (hRes : ResOk X) (hB : Bg X noH V gs w t) (hwg : WgAt X.ty X.Wg w st sm) (hm : ConcN.Mode V.j V.D (toC V.tag) st sm) (hq : isPost V.tag → AcqA X V.j t) (hl : Lk X V)
    {k : Nat} {g : Goroutine} (h0 : 0 < k) (hL : k ≤ X.L) (hg : gs[k]? = some g) (hrun : g.status = .running) : Nxt X V gs w sl t k := by
  have hk0 : (k == 0) = false := by simp; omega
  have hQ := hB.old k g id h0 hL hg
  cases hqk : V.qo k with
  | zero => rw [hqk] at hQ; rw [hQ.1] at hrun; cases hrun
  | succ q =>
    rw [hqk] at hQ
    rcases hQ with ⟨hf, _⟩ | ⟨_, g', es, hmu, hst, hq'⟩
    · rw [hf] at hrun; cases hrun
    have hgo := hst w
    have hT := hB.ti.mute (u := MemOp.ofEvents k g.frame.fn g.frame.place es) (g := k) (by have := lt_of_get hg; rw [hB.sz] at this; exact this) g_of_ofEvents
      (fun op hop => by obtain ⟨e, he, rfl⟩ := mem_ofE hop; exact touch_mute (hmu e he)) (fun op hop => by obtain ⟨e, he, rfl⟩ := mem_ofE hop; exact low_mute (hmu e he) _)
    have hno : ∀ e ∈ es, e.loc ≠ .mark (.release (stA X.Wg)) := fun e he h => by
      have := hmu e he
      obtain ⟨loc, a, b⟩ := e
      simp only at h
      subst h
      simp [Event.mute] at this
    have hE : Eff X V k w w V.cl (t ++ MemOp.ofEvents k g.frame.fn g.frame.place es) :=
      ⟨rfl, rfl, rfl, Nat.le_refl _, fun _ _ _ _ => rfl, hB.live, fun _ _ => rfl, hT, hB.nor.app (norel_of hno), hB.chm, fun hw => (hB.chw hw).2.2.2, fun _ _ _ => atRel_refl w, hB.kd.kd⟩
    obtain ⟨tag', f', hB', hgk, hf, htag, hwk⟩ := (hB.less (H' := (· = k)) (fun _ h => h.elim)).go (g' := g') hRes hg hE (hB.s7 hm) hl.c40
    have hrunT := runT_crowd_go (P := X.P) (sl := sl) (i := k) hg (by rw [hk0]; exact hgo)
    have htC : toC tag' = toC V.tag ∨ (toC V.tag = .blk ∧ toC tag' = .w3) := by
      rcases htag with ⟨rfl, _⟩ | ⟨_, e, rfl⟩
      · exact .inl rfl
      · exact .inr ⟨by rw [e]; rfl, rfl⟩
    refine ⟨_, _, meas X { V with tag := tag', f0 := f', qo := upd V.qo k q }, hrunT, ?_, _, w, sl, { V with tag := tag', f0 := f', qo := upd V.qo k q }, st, sm, rfl, ?_, hwg, hm.retag htC, fun hp => ?_, ?_, rfl⟩
    · have e1 : sumTo (X.L + 1) (upd V.qo k q) + (q + 1) = sumTo (X.L + 1) V.qo + q := by
        have := sumTo_upd V.qo q id (i := k) (j := X.L + 1) (by omega)
        simpa [hqk] using this
      have e2 : phi X.N (Vc V.j V.D) tag' = phi X.N (Vc V.j V.D) V.tag := by
        rcases htag with ⟨rfl, _⟩ | ⟨_, e, rfl⟩
        · rfl
        · rw [e]; rfl
      simp only [meas, e2, wgt, fsum, osum]
      refine Prod.Lex.right _ ?_
      omega
    · refine ⟨hB'.sz, hB'.nC, hB'.nJ, hB'.hwC, fun _ => hB'.main (by omega), fun _ => hB'.fl (by omega), fun _ => hB'.dM (by omega), fun _ => hB'.oM (by omega), fun i x _ hi hL hx => ?_, fun i hi _ => hB'.snd i hi (by omega), fun i hi _ => hB'.dS i hi (by omega), fun i hi _ => hB'.rel i hi (by omega), fun i hi _ => hB'.oS i hi (by omega),
        fun hc _ => hB'.col hc (by omega), fun hc _ => hB'.dC hc (by omega), fun hc _ => hB'.oC hc (by omega), hB'.ti, hB'.nor, hB'.clW, hB'.clM, hB'.neM, hB'.clQ, hB'.clS, hB'.live, hB'.chm, hB'.chw, hB'.kd⟩
      by_cases e : i = k
      · subst e
        rw [hgk] at hx
        cases hx
        simp only [upd_same]
        rw [Deaf_own]
        exact hq'
      · simp only [upd_ne V.qo q e]
        exact hB'.old i x e hi hL hx
    · have hp' : isPost V.tag := by
        rcases htag with ⟨rfl, _⟩ | ⟨_, e, rfl⟩
        · exact hp
        · exact hp.elim
      exact (hq hp').app fun i r hi hr => hr.appOther g_of_ofEvents (by omega)
    · refine ⟨hl.mrg, hl.cnt, hl.un, hl.jN, hl.nc, hl.c4, hl.sh, hl.ex1, fun h => ?_, hl.rn, hl.c40⟩
      rcases htag with ⟨rfl, _⟩ | ⟨_, e, rfl⟩
      · exact hl.ex2 h
      · cases h
end
end Go.Proofs.YtmmjlngbiilagaaGreatDoor

/-
  A FAN-IN: a sender's own steps keep the invariant and lower the measure.
-/
namespace Go.Proofs.YtmmjlngbiilagaaGreatDoor
open Go Go.Conc
open Go.ConcR (KK wgBlock WgAt stA smA rd wr mk DC0 g_of_ofEvents)
open Go.ConcN (WgLive AtD4 WD CTag upd upd_same upd_ne sumTo sumTo_upd sumTo_congr le_sumTo get_map_set get_map_set_same norel_of RelBy RelBy.appOther RelBy.new RelBy.appOwn Vc cnt Vc_upd Vc_le OpenSt others_uncounted isW3 pend)

section
variable {X : Cx} {V : Vx} {gs : Array Goroutine} {w w' : World} {sl : Option (Nat × Nat)} {t : Trace} {st sm st' sm' : Int}

theorem toC_blk {tag : MT} (h : toC tag = .blk) : tag = .blk := by
  cases tag <;> first | rfl | (simp only [toC] at h; cases h)

/-- The sender's place is filled again. -/
theorem Bg.fillS {H H' : Nat → Prop} {i : Nat} {g' : Goroutine} {x : WD} {rm : List Value} {O' : Nat → Prop} (hi : i < V.j) (hB : Bg X H V gs w t) (hH : ∀ k, ¬ H' k → k = X.L + 1 + i ∨ ¬ H k) (hg : gs[X.L + 1 + i]? = some g')
    (hs : SSit X.P X.ty X.Wg X.Cm X.Q rm x.stage x.fuel x.deaf O' g' w) (hd : Deaf t (X.L + 1 + i) = x.deaf) (hr : x.stage ≤ 6 → ∃ r, RelBy (stA X.Wg) t (X.L + 1 + i) r)
    (hO : ∀ b, O' b → V.cl b = .own (X.L + 1 + i) ∧ b < w.heap.size) : Bg X H' { V with D := upd V.D i x, rem := upd V.rem i rm, OS := upd V.OS i O' } gs w t := by
  have hjN : V.hc = true → X.L + 1 + X.N ≠ X.L + 1 + i := fun hc => by have := (hB.nC hc).2; omega
  have up : ∀ {k : Nat}, k ≠ X.L + 1 + i → ¬ H' k → ¬ H k := fun hk h => (hH _ h).resolve_left hk
  refine ⟨hB.sz, hB.nC, hB.nJ, hB.hwC, fun h => hB.main (up (by omega) h), fun h => hB.fl (up (by omega) h), fun h => hB.dM (up (by omega) h), fun h => hB.oM (up (by omega) h), fun a y h h0 hL => hB.old a y (up (by omega) h) h0 hL, fun a ha h => ?_, fun a ha h => ?_, fun a ha h => ?_, fun a ha h => ?_,
    fun hc h => hB.col hc (up (hjN hc) h), fun hc h => hB.dC hc (up (hjN hc) h), fun hc h => hB.oC hc (up (hjN hc) h), hB.ti, hB.nor, hB.clW, hB.clM, hB.neM, hB.clQ, hB.clS, hB.live, hB.chm, hB.chw, hB.kd⟩
  · by_cases e : a = i
    · subst e
      refine ⟨g', hg, ?_⟩
      simp only [Cx.ss, upd_same]
      exact hs
    · obtain ⟨y, hy, h⟩ := hB.snd a ha (up (by omega) h)
      refine ⟨y, hy, ?_⟩
      simp only [Cx.ss, upd_ne _ _ e] at h ⊢
      exact h
  · by_cases e : a = i
    · subst e; simp only [upd_same]; exact hd
    · simp only [upd_ne V.D _ e]; exact hB.dS a ha (up (by omega) h)
  · by_cases e : a = i
    · subst e; simp only [upd_same]; exact hr
    · simp only [upd_ne V.D _ e]; exact hB.rel a ha (up (by omega) h)
  · by_cases e : a = i
    · subst e; simp only [upd_same]; exact hO
    · simp only [upd_ne V.OS _ e]; exact hB.oS a ha (up (by omega) h)

/-- The collector's place is filled again. -/
theorem Bg.fillC {H H' : Nat → Prop} {g' : Goroutine} {l : List Value} {c f : Nat} {O' : Nat → Prop} (hc : V.hc = true) (hB : Bg X H V gs w t) (hH : ∀ k, ¬ H' k → k = X.L + 1 + X.N ∨ ¬ H k) (hg : gs[X.L + 1 + X.N]? = some g')
    (hs : CSit X.P X.ty X.Wg X.Cm V.S V.Cw X.Poss X.Full X.Res l (X.tot - l.length) c f O' g' w) (hd : Deaf t (X.L + 1 + X.N) = 0)
    (hO : ∀ b, O' b → V.cl b = .own (X.L + 1 + X.N) ∧ b < w.heap.size) : Bg X H' { V with l := l, cst := c, cfu := f, OC := O' } gs w t := by
  have hjN := (hB.nC hc).2
  have up : ∀ {k : Nat}, k ≠ X.L + 1 + X.N → ¬ H' k → ¬ H k := fun hk h => (hH _ h).resolve_left hk
  exact ⟨hB.sz, hB.nC, hB.nJ, hB.hwC, fun h => hB.main (up (by omega) h), fun h => hB.fl (up (by omega) h), fun h => hB.dM (up (by omega) h), fun h => hB.oM (up (by omega) h), fun a y h h0 hL => hB.old a y (up (by omega) h) h0 hL, fun a ha h => hB.snd a ha (up (by simp only at ha; omega) h), fun a ha h => hB.dS a ha (up (by simp only at ha; omega) h),
    fun a ha h => hB.rel a ha (up (by simp only at ha; omega) h), fun a ha h => hB.oS a ha (up (by simp only at ha; omega) h), fun _ _ => ⟨g', hg, hs⟩, fun _ _ => hd, fun _ _ => hO, hB.ti, hB.nor, hB.clW, hB.clM, hB.neM, hB.clQ, hB.clS, hB.live, hB.chm, hB.chw, hB.kd⟩

/-- The starter's place is filled again. -/
theorem Bg.fillM {H H' : Nat → Prop} {g' : Goroutine} {tag' : MT} {f' d' : Nat} {O' : Nat → Prop} (hB : Bg X H V gs w t) (hH : ∀ k, ¬ H' k → k = 0 ∨ ¬ H k) (hg : gs[0]? = some g')
    (hs : MSit X.P X.ty X.Wg X.Cm X.Q X.N X.vals X.Poss X.Full X.Res X.NextM X.tot tag' V.j f' d' O' V.S V.Cw g' w) (hf : (V.hc = true ↔ hasC tag') ∧ (V.hw = true ↔ hasW tag') ∧ V.shut = isShut tag') (hd : Deaf t 0 = d')
    (hO : ∀ b, O' b → V.cl b = .own 0 ∧ b < w.heap.size) : Bg X H' { V with tag := tag', f0 := f', d0 := d', O := O' } gs w t := by
  have up : ∀ {k : Nat}, k ≠ 0 → ¬ H' k → ¬ H k := fun hk h => (hH _ h).resolve_left hk
  exact ⟨hB.sz, hB.nC, hB.nJ, hB.hwC, fun _ => ⟨g', hg, hs⟩, fun _ => hf, fun _ => hd, fun _ => hO, fun a y h h0 hL => hB.old a y (up (by omega) h) h0 hL, fun a ha h => hB.snd a ha (up (by omega) h), fun a ha h => hB.dS a ha (up (by omega) h),
    fun a ha h => hB.rel a ha (up (by omega) h), fun a ha h => hB.oS a ha (up (by omega) h), fun hc h => hB.col hc (up (by omega) h), fun hc h => hB.dC hc (up (by omega) h), fun hc h => hB.oC hc (up (by omega) h), hB.ti, hB.nor, hB.clW, hB.clM, hB.neM, hB.clQ, hB.clS, hB.live, hB.chm, hB.chw, hB.kd⟩

/-- A SENDER's OWN STEP (no communication). -/
theorem stepS (hRes : ResOk X) (hB : Bg X noH V gs w t) (hm : ConcN.Mode V.j V.D (toC V.tag) st sm) (hq : isPost V.tag → AcqA X V.j t) (hl : Lk X V)
    {i : Nat} (hi : i < V.j) {g g' : Goroutine} (hg : gs[X.L + 1 + i]? = some g) {es : Array Event} {cl' : Nat → Cls} {s' m' dd' : Nat} {O' : Nat → Prop} (hgo : stepG X.P false g w = .go g' w' es)
    (hE : Eff X V (X.L + 1 + i) w w' cl' (t ++ MemOp.ofEvents (X.L + 1 + i) g.frame.fn g.frame.place es)) (hs : SSit X.P X.ty X.Wg X.Cm X.Q (V.rem i) s' m' dd' O' g' w')
    (hO : ∀ b, O' b → cl' b = .own (X.L + 1 + i) ∧ b < w'.heap.size) (hd : deafBehind (V.D i).deaf es = dd') (hrel : s' ≤ 6 → ∃ r, RelBy (stA X.Wg) (t ++ MemOp.ofEvents (X.L + 1 + i) g.frame.fn g.frame.place es) (X.L + 1 + i) r)
    (hwg' : WgAt X.ty X.Wg w' st' sm')
    (hmode : ∀ tag', (tag' = toC V.tag ∨ (toC V.tag = .blk ∧ tag' = .w3)) → (mayWake X.P g = true → g'.status = .running → tag' ≠ .blk) → ConcN.Mode V.j (upd V.D i ⟨s', m', dd'⟩) tag' st' sm')
    (hacq : isPost V.tag → AcqA X V.j (t ++ MemOp.ofEvents (X.L + 1 + i) g.frame.fn g.frame.place es))
    (hlt : (s' < (V.D i).stage ∧ cnt ⟨s', m', dd'⟩ ≤ cnt (V.D i)) ∨ (s' = (V.D i).stage ∧ m' + 1 = (V.D i).fuel)) (hpk : V.rem i ≠ [] → m' ≠ 0) (hrn : s' ≠ 7 → V.rem i = []) : Nxt X V gs w sl t (X.L + 1 + i) := by
  have hk0 : (X.L + 1 + i == 0) = false := by simp
  obtain ⟨tag', f', hB', hgk, hf, htag, hwk⟩ := (hB.less (H' := (· = X.L + 1 + i)) (fun _ h => h.elim)).go (g' := g') hRes hg hE (hB.s7 hm) hl.c40
  have hrunT := runT_crowd_go (P := X.P) (sl := sl) (i := X.L + 1 + i) hg (by rw [hk0]; exact hgo)
  have hdt : Deaf (t ++ MemOp.ofEvents (X.L + 1 + i) g.frame.fn g.frame.place es) (X.L + 1 + i) = dd' := by
    rw [Deaf_own, hB.dS i hi id]; exact hd
  have hF := Bg.fillS (V := { V with tag := tag', f0 := f', cl := cl' }) (i := i) (x := ⟨s', m', dd'⟩) (rm := V.rem i) (O' := O') (H' := noH) hi hB' (fun k _ => Classical.em _) hgk hs hdt hrel hO
  have htC : toC tag' = toC V.tag ∨ (toC V.tag = .blk ∧ toC tag' = .w3) := by
    rcases htag with ⟨rfl, _⟩ | ⟨_, e, rfl⟩
    · exact .inl rfl
    · exact .inr ⟨by rw [e]; rfl, rfl⟩
  have hwkC : mayWake X.P g = true → g'.status = .running → toC tag' ≠ .blk := fun h1 h2 h => by
    exact hwk h1 h2 (by omega) (toC_blk h)
  have hremE : upd V.rem i (V.rem i) = V.rem := by
    funext a
    by_cases e : a = i
    · subst e; rw [upd_same]
    · rw [upd_ne _ _ e]
  refine ⟨_, _, _, hrunT, ?_, _, w', sl, _, st', sm', rfl, hF, hwg', hmode _ htC hwkC, fun hp => ?_, ?_, rfl⟩
  · have ev := Vc_upd V.D (⟨s', m', dd'⟩ : WD) hi
    have hiN : i < X.N := Nat.lt_of_lt_of_le hi hl.jN
    have ew := sumTo_upd (fun a => ((V.D a), (V.rem a))) ((⟨s', m', dd'⟩ : WD), V.rem i) (fun p => p.1.stage + p.2.length) hiN
    have ef := sumTo_upd V.D (⟨s', m', dd'⟩ : WD) WD.fuel hiN
    have e1 : ∀ a, upd (fun a => ((V.D a), (V.rem a))) i ((⟨s', m', dd'⟩ : WD), V.rem i) a = (upd V.D i ⟨s', m', dd'⟩ a, V.rem a) := fun a => by
      by_cases e : a = i
      · subst e; simp only [upd_same]
      · simp only [upd_ne _ _ e]
    simp only [e1] at ew
    have e2 : phi X.N (Vc V.j (upd V.D i ⟨s', m', dd'⟩)) tag' = phi X.N (Vc V.j (upd V.D i ⟨s', m', dd'⟩)) V.tag := by
      rcases htag with ⟨rfl, _⟩ | ⟨_, e, rfl⟩
      · rfl
      · rw [e]; rfl
    simp only [meas, wgt, fsum, osum, hremE, e2]
    rcases hlt with ⟨h1, h2⟩ | ⟨h1, h2⟩
    · have := phi_mono X.N (c' := Vc V.j (upd V.D i ⟨s', m', dd'⟩)) (c := Vc V.j V.D) (by omega) V.tag
      refine Prod.Lex.left _ _ ?_
      omega
    · have hc : cnt (⟨s', m', dd'⟩ : WD) = cnt (V.D i) := by simp only [cnt, h1]
      have : Vc V.j (upd V.D i ⟨s', m', dd'⟩) = Vc V.j V.D := by omega
      have ew' : (sumTo X.N fun a => (upd V.D i ⟨s', m', dd'⟩ a).stage + (V.rem a).length) = sumTo X.N fun a => (V.D a).stage + (V.rem a).length := by omega
      rw [this, ew']
      refine Prod.Lex.right _ ?_
      simp only at ef ⊢
      omega
  · have hp' : isPost V.tag := by
      rcases htag with ⟨rfl, _⟩ | ⟨_, e, rfl⟩
      · exact hp
      · exact hp.elim
    exact hacq hp'
  · have hrA : ∀ a, upd V.rem i (V.rem i) a = V.rem a := fun a => congrFun hremE a
    refine ⟨hremE.symm ▸ hl.mrg, ?_, fun a ha hN => ?_, hl.jN, hl.nc, hl.c4, hl.sh, fun hc h4 h0 a ha hr => ?_, fun h => ?_, fun a ha h7 => ?_, hl.c40⟩
    · show V.l.length + sumTo X.N (fun a => (upd V.rem i (V.rem i) a).length) = X.tot
      rw [hremE]; exact hl.cnt
    · have hai : a ≠ i := by simp only at ha; omega
      have := hl.un a ha hN
      refine ⟨(hrA a).trans this.1, ?_, ?_⟩
      · show (upd V.D i ⟨s', m', dd'⟩ a).stage = 7
        rw [upd_ne V.D _ hai]; exact this.2.1
      · show (upd V.D i ⟨s', m', dd'⟩ a).fuel = 0
        rw [upd_ne V.D _ hai]; exact this.2.2
    · have hr' : V.rem a ≠ [] := fun e => hr ((hrA a).trans e)
      show (upd V.D i ⟨s', m', dd'⟩ a).fuel ≠ 0
      by_cases e : a = i
      · subst e; rw [upd_same]; exact hpk hr'
      · rw [upd_ne V.D _ e]; exact hl.ex1 hc h4 h0 a ha hr'
    · rcases htag with ⟨rfl, _⟩ | ⟨_, e, rfl⟩
      · exact hl.ex2 h
      · cases h
    · refine (hrA a).trans ?_
      have h7' : (upd V.D i ⟨s', m', dd'⟩ a).stage ≠ 7 := h7
      by_cases e : a = i
      · subst e; rw [upd_same] at h7'; exact hrn h7'
      · rw [upd_ne V.D _ e] at h7'; exact hl.rn a ha h7'

/-- A step of the library's book-keeping by a sender: at most the group's block turns. -/
theorem Eff.book {k : Nat} {es : Array Event} {fn : FuncId} {pos : String} (hB : Bg X noH V gs w t) (hk : k = 0 ∨ X.L < k) (hkn : k < V.n) (hA : Aside X.Wg w w') (hwg' : WgAt X.ty X.Wg w' st' sm') (hes : ∀ e ∈ es, Bw X.Wg k e)
    (hst : V.hc = true → V.cst ≤ 3 → w' = w) : Eff X V k w w' V.cl (t ++ MemOp.ofEvents k fn pos es) := by
  have hWl : X.Wg < w.heap.size := by obtain ⟨_, _, h⟩ := hB.live; exact heap_lt h
  refine ⟨hA.tape, hA.os, hA.output, by rw [hA.size]; exact Nat.le_refl _, fun b _ _ hs => hA.block b (fun e => hs (by rw [e]; exact hB.clW)), ⟨_, _, hwg'⟩, fun _ _ => rfl, ?_, hB.nor.app (norel_of fun e he => (hes e he).norel), ?_, fun hw => ?_, fun hc h3 _ => by rw [hst hc h3]; exact atRel_refl w, hB.kd.kd.one hA.block fun o ho => by
    have e : w'.heap[X.Wg]? = some (wgBlock X.ty st' sm') := hwg'
    rw [e] at ho
    cases ho
    exact trivial⟩
  · rw [hA.size]
    exact ti_book hB.ti hk hkn hB.clW hWl hes
  · obtain ⟨s, r, h⟩ := hB.chm
    exact ⟨s, r, (hA.block _ hB.neM).trans h⟩
  · obtain ⟨_, h2, _, s, h⟩ := hB.chw hw
    exact ⟨s, (hA.block _ h2).trans h⟩

theorem rel_book {a : Addr} {k r d : Nat} {fn : FuncId} {pos : String} {es : Array Event} (h : RelBy a t k r) (hdk : Deaf t k = d)
    (hd : ∀ (j : Nat) (e : Event), es[j]? = some e → (MemAct.ofEvent e).touch? = none ∨ (∃ b wr, e = ⟨.cell b, wr, true⟩) ∧ 0 < deafBehind d (es.extract 0 j)) : RelBy a (t ++ MemOp.ofEvents k fn pos es) k r :=
  h.appOwn fn pos es fun j x hx => (hd j x hx).imp id fun ⟨⟨b, wr, e⟩, h2⟩ => ⟨⟨b, wr, e⟩, by rw [hdk]; exact h2⟩
end
end Go.Proofs.YtmmjlngbiilagaaGreatDoor

/-
  A FAN-IN: a communication, or a parking, leaves everybody who has no part in it; who offers what at which channel.
-/
namespace Go.Proofs.YtmmjlngbiilagaaGreatDoor
open Go Go.Conc
open Go.ConcR (KK wgBlock WgAt stA smA rd wr mk DC0 g_of_ofEvents)
open Go.ConcN (WgLive AtD4 WD CTag upd upd_same upd_ne sumTo sumTo_upd sumTo_congr le_sumTo get_map_set get_map_set_same norel_of RelBy RelBy.appOther RelBy.appNot RelBy.new Deaf_still Vc cnt Vc_upd Vc_le)

/-- Operations that touch no memory and are no words on hearing, each by somebody who is there. -/
structure Plain (X : Cx) (n B : Nat) (H : Nat → Prop) (u : Trace) : Prop where
  nt : ∀ op ∈ u, op.act.touch? = none
  nd : ∀ op ∈ u, op.act ≠ .mark .disable ∧ op.act ≠ .mark .enable
  nr : ∀ op ∈ u, op.act ≠ .mark (.release (stA X.Wg))
  low : ∀ op ∈ u, op.act.low B
  gs : ∀ op ∈ u, op.g < n ∧ H op.g

section
variable {X : Cx} {H H' : Nat → Prop} {V : Vx} {gs gs' : Array Goroutine} {w w' : World} {t u : Trace} {st sm : Int}

theorem TI.plain {cl : Nat → Cls} {n B : Nat} (h : TI X.Shun cl X.Wg X.L n B t) (hp : Plain X n B H u) : TI X.Shun cl X.Wg X.L n B (t ++ u) := by
  have key : ∀ (l : List MemOp), (∀ op ∈ l, op ∈ u) → ∀ t : Trace, TI X.Shun cl X.Wg X.L n B t → TI X.Shun cl X.Wg X.L n B (t ++ l.toArray) := by
    intro l
    induction l with
    | nil => intro _ t h; simpa using h
    | cons x l ih =>
      intro hl t h
      have hx := hl x (by simp)
      have e : t ++ (x :: l).toArray = (t ++ #[x]) ++ l.toArray := by apply Array.ext'; simp
      rw [e]
      exact ih (fun op hop => hl op (by simp [hop])) _ (h.mute (g := x.g) (hp.gs x hx).1 (fun op hop => by simp at hop; rw [hop]) (fun op hop => by simp at hop; rw [hop]; exact hp.nt x hx) (fun op hop => by simp at hop; rw [hop]; exact hp.low x hx))
  have := key u.toList (fun op hop => by simpa using hop) t h
  simpa using this

/-- A COMMUNICATION (or a parking) of those in H: at most one channel's block turns. -/
theorem Bg.com (hRes : ResOk X) (hB : Bg X H V gs w t) {c : Nat} (hA : Aside c w w') (hc : V.cl c = .sh) (hcW : c ≠ X.Wg) (hgs : ∀ k, ¬ H k → gs'[k]? = gs[k]?) (hsz : gs'.size = gs.size) (hp : Plain X V.n w.heap.size H u)
    (hcm : ∃ s r, w'.heap[X.Cm]? = some (.chan 0 #[] V.shut s r false)) (hcw : V.hw = true → ∃ s, w'.heap[V.Cw]? = some (.chan 0 #[] false s s false))
    (hst : V.hc = true → V.cst ≤ 3 → ¬ H (X.L + 1 + X.N) → AtRel w w') (hkd : ∀ o, w'.heap[c]? = some o → KindOk X.Nb o) : Bg X H V gs' w' (t ++ u) := by
  have rl : ∀ {x : Nat} {S : Nat → Prop}, (∀ b, S b → (V.cl b = .own x ∨ ∃ m, V.cl b = .ro m) ∧ b < w.heap.size) → Rl X.ty X.Wg S w w' := fun hS =>
    ⟨hA.tape, hA.os, hA.output, by rw [hA.size]; exact Nat.le_refl _, fun b hb => hA.block b (fun e => by
      obtain ⟨h, _⟩ := hS b hb
      rw [e, hc] at h
      rcases h with h | ⟨m, h⟩ <;> cases h), fun ⟨s1, s2, h⟩ => ⟨s1, s2, h.of_block (hA.block _ hcW.symm)⟩⟩
  have hd : ∀ k, Deaf (t ++ u) k = Deaf t k := fun k => Deaf_still t k u hp.nd
  have hl : ∀ {b : Nat}, b < w.heap.size → b < w'.heap.size := fun h => by rw [hA.size]; exact h
  refine ⟨hsz.trans hB.sz, hB.nC, hB.nJ, hB.hwC, fun h => ?_, hB.fl, fun h => (hd 0).trans (hB.dM h), fun h b hb => ⟨(hB.oM h b hb).1, hl (hB.oM h b hb).2⟩, fun i g h h0 hL hg => ?_, fun i hi h => ?_, fun i hi h => (hd _).trans (hB.dS i hi h), fun i hi h h6 => ?_, fun i hi h b hb => ⟨(hB.oS i hi h b hb).1, hl (hB.oS i hi h b hb).2⟩,
    fun hcc h => ?_, fun hcc h => (hd _).trans (hB.dC hcc h), fun hcc h b hb => ⟨(hB.oC hcc h b hb).1, hl (hB.oC hcc h b hb).2⟩, by rw [hA.size]; exact hB.ti.plain hp, hB.nor.app hp.nr, hB.clW, hB.clM, hB.neM, fun b hb => ⟨(hB.clQ b hb).1, hl (hB.clQ b hb).2⟩, fun hcc b hb => ⟨(hB.clS hcc b hb).1, hl (hB.clS hcc b hb).2⟩,
    let ⟨s1, s2, h⟩ := hB.live; ⟨s1, s2, h.of_block (hA.block _ hcW.symm)⟩, hcm, fun hw => ⟨(hB.chw hw).1, (hB.chw hw).2.1, (hB.chw hw).2.2.1, hcw hw⟩, ⟨hB.kd.kd.one hA.block hkd, hB.kd.ow, hB.kd.nb, hB.kd.wB, fun b hb => by
      obtain ⟨h1, h2, h3⟩ := hB.kd.dead b hb
      exact ⟨h1, hl h2, (hA.block b (fun e => by rw [e, hc] at h1; cases h1)).trans h3⟩⟩⟩
  · obtain ⟨a, ha, hs⟩ := hB.main h
    exact ⟨a, (hgs 0 h).trans ha, MSit.rely hs (rl (x := 0) fun b hb => hb.elim (fun ho => ⟨.inl (hB.oM h b ho).1, (hB.oM h b ho).2⟩) fun hq => ⟨.inr ⟨_, (hB.clQ b hq).1.choose_spec.2⟩, (hB.clQ b hq).2⟩)
      (fun hcc => rl (x := 0) fun b hb => ⟨.inr ⟨_, (hB.clS ((hB.fl h).1.2 hcc) b hb).1.choose_spec.2⟩, (hB.clS ((hB.fl h).1.2 hcc) b hb).2⟩)⟩
  · rw [hgs i h] at hg
    rw [hd i]
    exact hB.old i g h h0 hL hg
  · obtain ⟨x, hx, hs⟩ := hB.snd i hi h
    exact ⟨x, (hgs _ h).trans hx, SSit.rely hs (rl (x := X.L + 1 + i) fun b hb => hb.elim (fun ho => ⟨.inl (hB.oS i hi h b ho).1, (hB.oS i hi h b ho).2⟩) fun hq => ⟨.inr ⟨_, (hB.clQ b hq).1.choose_spec.2⟩, (hB.clQ b hq).2⟩)⟩
  · obtain ⟨r, hr⟩ := hB.rel i hi h h6
    exact ⟨r, hr.appNot fun op hop e => h (e ▸ (hp.gs op hop).2)⟩
  · obtain ⟨x, hx, hs⟩ := hB.col hcc h
    exact ⟨x, (hgs _ h).trans hx, CSit.rely hs (fun _ => rl (x := X.L + 1 + X.N) fun b hb => hb.elim (fun ho => ⟨.inl (hB.oC hcc h b ho).1, (hB.oC hcc h b ho).2⟩) fun hq => ⟨.inr ⟨_, (hB.clS hcc b hq).1.choose_spec.2⟩, (hB.clS hcc b hq).2⟩)
      (fun h3 => hst hcc (by omega) h) (fun v h2 hr => by obtain ⟨d, rfl⟩ := hst hcc (by omega) h; exact hRes _ _ _ d hr)⟩

/-! ### who offers what -/
theorem offers_of_status {g : Goroutine} (h : g.status = .running ∨ g.status = .finished) (c : Nat) (b : Bool) : offersAt g c b = [] :=
  offersAt_of_not_blocked (by rcases h with h | h <;> rw [h] <;> simp) c b
theorem offers_none {g : Goroutine} (h : g.offers = none) (c : Nat) (b : Bool) : offersAt g c b = [] := by
  unfold offersAt
  rw [h]
  split <;> first | rfl | (rename_i h2; cases h2)

/-- What each goroutine offers at a channel. -/
inductive Off (X : Cx) (V : Vx) (k : Nat) (g : Goroutine) : Prop
  | none : (∀ c b, offersAt g c b = []) → Off X V k g
  | main {g₀ : Goroutine} {z : Value} : k = 0 → V.tag = .prw → g = parked (core g₀) #[rcase V.Cw z] (.recv false) → Off X V k g
  | snd {i : Nat} {g₀ : Goroutine} {v z : Value} : i < V.j → k = X.L + 1 + i → (V.D i).fuel = 0 → V.rem i ≠ [] → g = parked (core g₀) #[scase X.Cm v z] .send → Off X V k g
  | col {g₀ : Goroutine} {z : Value} : V.hc = true → k = X.L + 1 + X.N → V.cst = 4 → V.cfu = 0 → g = parked (core g₀) #[rcase X.Cm z] (.recv true) → Off X V k g
  | colw {g₀ : Goroutine} {v z : Value} : V.hc = true → k = X.L + 1 + X.N → V.cst = 2 → V.cfu = 0 → g = parked (core g₀) #[scase V.Cw v z] .send → Off X V k g

theorem Bg.off (hB : Bg X noH V gs w t) {k : Nat} {g : Goroutine} (hg : gs[k]? = some g) : Off X V k g := by
  have hk := lt_of_get hg
  rw [hB.sz] at hk
  rcases Nat.eq_zero_or_pos k with rfl | h0
  · obtain ⟨a, ha, hs⟩ := hB.main id
    rw [hg] at ha; cases ha
    rcases MSit.status hs with ⟨h, _, _⟩ | ⟨_, h, _⟩ | ⟨_, h, g₀, z, rfl⟩
    · exact .none (offers_of_status (.inl h))
    · exact .none (offers_none h)
    · exact .main rfl h rfl
  rcases Nat.lt_or_ge X.L k with hL | hL
  · have hsnd : ∀ i, i < V.j → k = X.L + 1 + i → Off X V k g := fun i hi e => by
      obtain ⟨x, hx, hs⟩ := hB.snd i hi id
      rw [← e, hg] at hx; cases hx
      rcases SSit.status hs with h | ⟨h, _⟩ | ⟨hf, _, hr, g₀, v, z, rfl⟩
      · exact .none (offers_of_status (.inl h))
      · exact .none (offers_of_status (.inr h))
      · exact .snd hi e hf hr rfl
    cases hc : V.hc with
    | false =>
      have := hB.nJ hc
      exact hsnd (k - (X.L + 1)) (by omega) (by omega)
    | true =>
      obtain ⟨h1, h2⟩ := hB.nC hc
      by_cases e : k = X.L + 1 + X.N
      · obtain ⟨x, hx, hs⟩ := hB.col hc id
        rw [← e, hg] at hx; cases hx
        rcases CSit.status hs with h | ⟨h, _⟩ | ⟨hf, h4, g₀, z, rfl⟩ | ⟨hf, h2, g₀, v, z, rfl⟩
        · exact .none (offers_of_status (.inl h))
        · exact .none (offers_of_status (.inr h))
        · exact .col hc e h4 hf rfl
        · exact .colw hc e h2 hf rfl
      · exact hsnd (k - (X.L + 1)) (by omega) (by omega)
  · exact .none (offers_of_status (hB.old k g id h0 hL hg).status)

/-- Who is parked at a receive on the senders' channel: the collector alone. -/
theorem Off.recvM {k : Nat} {g : Goroutine} (hB : Bg X noH V gs w t) (h : Off X V k g) (hk : ¬ (V.hc = true ∧ k = X.L + 1 + X.N ∧ V.cst = 4 ∧ V.cfu = 0)) : offersAt g X.Cm false = [] := by
  cases h with
  | none h => exact h _ _
  | main h0 ht e =>
    have hw : V.hw = true := (hB.fl id).2.1.2 (by rw [ht]; trivial)
    rw [e, offersAt_parked_recv, if_neg (hB.chw hw).2.2.1]
  | snd _ _ _ _ e => rw [e]; exact offersAt_parked_send' ..
  | col hc e h4 hf _ => exact absurd ⟨hc, e, h4, hf⟩ hk
  | colw _ _ _ _ e => rw [e]; exact offersAt_parked_send' ..
/-- Who is parked at a send there: senders alone. -/
theorem Off.sendM {k : Nat} {g : Goroutine} (hB : Bg X noH V gs w t) (h : Off X V k g) (hk : ∀ i, i < V.j → k = X.L + 1 + i → (V.D i).fuel = 0 → V.rem i ≠ [] → False) : offersAt g X.Cm true = [] := by
  cases h with
  | none h => exact h _ _
  | main h0 ht e => rw [e]; exact offersAt_parked_recv' ..
  | snd hi e hf hr _ => exact (hk _ hi e hf hr).elim
  | col hc e h4 hf e' => rw [e']; exact offersAt_parked_recv' ..
  | colw hc _ _ _ e => rw [e, offersAt_parked_send, if_neg (hB.chw (hB.hwC hc)).2.2.1]
/-- Who is parked at a receive on the collector's channel: the starter alone. -/
theorem Off.recvW {k : Nat} {g : Goroutine} (hB : Bg X noH V gs w t) (hw : V.hw = true) (h : Off X V k g) (hk : k ≠ 0 ∨ V.tag ≠ .prw) : offersAt g V.Cw false = [] := by
  cases h with
  | none h => exact h _ _
  | main h0 ht e => rcases hk with hk | hk; exact absurd h0 hk; exact absurd ht hk
  | snd _ _ _ _ e => rw [e]; exact offersAt_parked_send' ..
  | col hc e h4 hf e' => rw [e', offersAt_parked_recv, if_neg (Ne.symm (hB.chw hw).2.2.1)]
  | colw _ _ _ _ e => rw [e]; exact offersAt_parked_send' ..
/-- Who is parked at a send there: the collector alone. -/
theorem Off.sendW {k : Nat} {g : Goroutine} (hB : Bg X noH V gs w t) (hw : V.hw = true) (h : Off X V k g) (hk : ¬ (V.hc = true ∧ k = X.L + 1 + X.N ∧ V.cst = 2 ∧ V.cfu = 0)) : offersAt g V.Cw true = [] := by
  cases h with
  | none h => exact h _ _
  | main h0 ht e => rw [e]; exact offersAt_parked_recv' ..
  | snd _ _ _ _ e => rw [e, offersAt_parked_send, if_neg (Ne.symm (hB.chw hw).2.2.1)]
  | col hc e h4 hf e' => rw [e']; exact offersAt_parked_recv' ..
  | colw hc e h2 hf _ => exact absurd ⟨hc, e, h2, hf⟩ hk

theorem get_stand {k m : Nat} {x : Goroutine} (h : (gs.setIfInBounds k ph)[m]? = some x) : (m = k ∧ x = ph) ∨ (m ≠ k ∧ gs[m]? = some x) := getElem?_stand gs k m x h

theorem noParts {k c : Nat} {b : Bool} (h : ∀ m x, m ≠ k → gs[m]? = some x → offersAt x c b = []) : partners (gs.setIfInBounds k ph) c b = [] :=
  partners_nil fun m x hx => by
    rcases get_stand hx with ⟨_, rfl⟩ | ⟨hm, hx'⟩
    · exact offersAt_ph _ _
    · exact h m x hm hx'

theorem onePart {k c m : Nat} {b : Bool} {g : Goroutine} (hm : m ≠ k) (hg : gs[m]? = some g) (ho : offersAt g c b = [0]) (h : ∀ a x, a ≠ k → a ≠ m → gs[a]? = some x → offersAt x c b = []) : partners (gs.setIfInBounds k ph) c b = [(m, 0)] := by
  rw [partners_one (stand_get hm hg) (fun a x ha hx => ?_), ho]
  · rfl
  · rcases get_stand hx with ⟨_, rfl⟩ | ⟨hak, hx'⟩
    · exact offersAt_ph _ _
    · exact h a x hak ha hx'
end
end Go.Proofs.YtmmjlngbiilagaaGreatDoor
