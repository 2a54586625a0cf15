/-
  THE COLLECTOR: it receives till the channel is closed, sorts, hands over.
-/
import Derived.Test.YtmmjlngbiilagaaDoorT10

namespace Go.Proofs.YtmmjlngbiilagaaDoor
open Go Go.Conc Go.RowKit Go.Conc.Lib Go.ConcR.Gen Go.Lib
open Go.ConcR (KK wgBlock WgAt stA smA rd wr mk DC0)
open Go.ConcN (WgLive AtD4 WD)

/-- The sort's phase is a walk of a goroutine that owns blocks. -/
theorem goesO_of_st {P : Program} {O Q : Nat → Prop} {B : Nat} {St : Goroutine → World → Prop} {Stop : (Nat → Prop) → Goroutine → World → Prop} (hS : ∀ O g w, St g w → Stop O g w) : ∀ {m : Nat} {g : Goroutine} {w : World},
    Goes P false AtRel (DSt O Q B) St m g w → GoesO P false RA Q Stop m (fun b => O b ∨ (B ≤ b ∧ b < w.heap.size)) g w
  | 0, _, _, h => fun w₁ h₁ => hS _ _ _ (h w₁ h₁)
  | m + 1, g, w, h => by
    rcases h with h | ⟨hs, h⟩
    · exact .inl fun w₁ h₁ => hS _ _ _ (h w₁ h₁)
    · refine .inr ⟨hs, fun w₁ h₁ => ?_⟩
      have hsz : w₁.heap = w.heap := atRel_heap h₁
      have := h w₁ h₁
      revert this
      cases stepG P false g w₁ <;> simp only [GStep.goes, imp_self]
      rename_i g' w' es
      rintro ⟨hd, x⟩
      refine ⟨fun b => O b ∨ (B ≤ b ∧ b < w'.heap.size), ⟨hd.tape, hd.os, hd.output, hd.size, fun b hb hn => hd.block b hb ?_ fun ho => hn (.inl ho), fun b hb => ?_, fun e he => ?_⟩, goesO_of_st hS x⟩
      · rcases Nat.lt_or_ge b B with h | h
        · exact h
        · exact absurd (.inr ⟨h, by rw [← hsz]; exact hb⟩) hn
      · rcases hb with h | ⟨h1, h2⟩
        · exact .inl (.inl h)
        · rcases Nat.lt_or_ge b w₁.heap.size with h3 | h3
          · exact .inl (.inr ⟨h1, by rw [← hsz]; exact h3⟩)
          · exact .inr ⟨h3, h2⟩
      · have := hd.ev e he
        obtain ⟨loc, wr, sy⟩ := e
        cases loc with
        | cell ad => exact ⟨this.1, this.2.imp (fun h => .inr h) id⟩
        | obj r => exact ⟨this.1, this.2.imp (fun h => .inr h) id⟩
        | mark m => exact this
        | output => exact this
        | goroutines => exact this

def bC : Frame := baseD 32
noncomputable def bodyC : Code := Tryd.f32.body.getD .skip
noncomputable def loopC : Code := match bodyC with | .seq _ (.seq (.seq _ (.block _ (.loop c))) _) => c | _ => .skip
noncomputable def tailC : Code := match bodyC with | .seq _ (.seq _ t) => t | _ => .skip

theorem array16 (T : Array Value) (h : T.size = 16) : ∃ v0 v1 v2 v3 v4 v5 v6 v7 v8 v9 v10 v11 v12 v13 v14 v15 : Value, T = #[v0, v1, v2, v3, v4, v5, v6, v7, v8, v9, v10, v11, v12, v13, v14, v15] := by
  obtain ⟨l⟩ := T
  simp only [List.size_toArray] at h
  rcases l with _ | ⟨v0, _ | ⟨v1, _ | ⟨v2, _ | ⟨v3, _ | ⟨v4, _ | ⟨v5, _ | ⟨v6, _ | ⟨v7, _ | ⟨v8, _ | ⟨v9, _ | ⟨v10, _ | ⟨v11, _ | ⟨v12, _ | ⟨v13, _ | ⟨v14, _ | ⟨v15, _ | ⟨x, l⟩⟩⟩⟩⟩⟩⟩⟩⟩⟩⟩⟩⟩⟩⟩⟩⟩ <;> simp at h
  exact ⟨v0, v1, v2, v3, v4, v5, v6, v7, v8, v9, v10, v11, v12, v13, v14, v15, rfl⟩

theorem info34 : (Tryd.prog.info? 34).map (fun i => (i.zero, i.size, i.bytes)) = some (some (.agg #[.int .i64 0, .string { data := #[] }, .int .i64 0, .string { data := #[] }]), 4, 48) := by kernel_rfl
theorem fill4 (x : M4) : Instr.fill (fun i => some (i * 4, 4)) ((Array.range (1 * 4)).map ((Value.agg #[.int .i64 0, .string { data := #[] }, .int .i64 0, .string { data := #[] }]).cells[· % (Value.agg #[.int .i64 0, .string { data := #[] }, .int .i64 0, .string { data := #[] }]).cells.size]!)) [(0, x.val)] = some x.cells.toArray := by
  kernel_rfl

/-- What is received, in cells. -/
def flat (lm : List M4) : List Value := lm.flatMap M4.cells
theorem flat_length (lm : List M4) : (flat lm).length = lm.length * 4 := by
  induction lm with
  | nil => rfl
  | cons x lm ih => simp only [flat, List.flatMap_cons, List.length_append, List.length_cons] at ih ⊢; rw [ih]; simp [M4.cells]; omega
theorem flat_get {lm : List M4} : ∀ {i : Nat} {x : M4}, lm[i]? = some x → ∀ (k : Nat) (v : Value), x.cells[k]? = some v → (flat lm)[i * 4 + k]? = some v := by
  induction lm with
  | nil => intro i x h; simp at h
  | cons y lm ih =>
    intro i x h k v hv
    have hk : k < 4 := (List.getElem?_eq_some_iff.1 hv).1
    cases i with
    | zero =>
      simp at h
      subst h
      simp only [flat, List.flatMap_cons]
      rw [List.getElem?_append_left (by simp [M4.cells]; omega)]
      simpa using hv
    | succ i =>
      have h' : lm[i]? = some x := by simpa using h
      have := ih h' k v hv
      simp only [flat, List.flatMap_cons] at this ⊢
      rw [List.getElem?_append_right (by simp [M4.cells]; omega)]
      have e : (i + 1) * 4 + k - y.cells.length = i * 4 + k := by simp [M4.cells]; omega
      rw [e]
      exact this

section
variable {Wg Cm Cw bc b9 : Nat} {Q : Nat → Prop} {O : Nat → Prop} {w w₁ : World}
/-- What the collector knows of the world. -/
structure KC (Wg Cm Cw bc b9 : Nat) (v : Value) (lm : List M4) (w : World) : Prop where
  c : w.heap[bc]? = some (.cells #[.chan (some Cm)] 71 (0, 0))
  w9 : w.heap[b9]? = some (.cells #[.chan (some Cw)] 80 (0, 0))
  row : w.ownsRow 0 34 4 v lm.length (flat lm)
  live : WgLive lk.tWg Wg w
theorem ownsRow_block {w w₁ : World} {e : TypeId} {size : Nat} {v : Value} {n : Nat} {xs : List Value} (h : w.ownsRow 0 e size v n xs) (hb : ∀ g, v.ownBlock = some g → w₁.heap[g]? = w.heap[g]?) : w₁.ownsRow 0 e size v n xs := by
  refine ⟨h.1, h.2.imp id fun ⟨g, cap, cur, hv, h1, h2, h3⟩ => ⟨g, cap, cur, hv, h1, ?_, h3⟩⟩
  rw [hb g (by rw [hv]; rfl)]
  exact h2
theorem KC.rely {v : Value} {lm : List M4} (hc : Q bc) (ho : ∀ g, v.ownBlock = some g → O g) (h : KC Wg Cm Cw bc b9 v lm w) (r : RO lk.tWg Wg (fun b => Q b ∨ b = b9) O w w₁) : KC Wg Cm Cw bc b9 v lm w₁ :=
  ⟨(r.block bc (.inr (.inl hc))).trans h.c, (r.block b9 (.inr (.inr rfl))).trans h.w9, ownsRow_block h.row fun g hg => r.block g (.inl (ho g hg)), r.live h.live⟩
/-- .. behind a step of its own on a block apart. -/
theorem KC.own {v : Value} {lm : List M4} {b : Nat} (h : KC Wg Cm Cw bc b9 v lm w) (hb : ∀ k, k < w.heap.size → k ≠ b → w₁.heap[k]? = w.heap[k]?) (h1 : b ≠ bc) (h2 : b ≠ b9) (h3 : v.ownBlock ≠ some b) (h4 : b ≠ Wg) : KC Wg Cm Cw bc b9 v lm w₁ := by
  refine ⟨(hb _ (heap_lt h.c) (Ne.symm h1)).trans h.c, (hb _ (heap_lt h.w9) (Ne.symm h2)).trans h.w9, ownsRow_block h.row fun g hg => hb g (h.row.lt g hg).2 (fun e => h3 (e ▸ hg)), ?_⟩
  obtain ⟨st, sm, hw⟩ := h.live
  have hw' : w.heap[Wg]? = some (wgBlock lk.tWg st sm) := hw
  exact ⟨st, sm, (hb _ (heap_lt hw') (Ne.symm h4)).trans hw'⟩
theorem KC.lt {v : Value} {lm : List M4} (h : KC Wg Cm Cw bc b9 v lm w) : bc < w.heap.size ∧ b9 < w.heap.size ∧ Wg < w.heap.size ∧ ∀ g, v.ownBlock = some g → g < w.heap.size := by
  obtain ⟨st, sm, hw⟩ := h.live
  have hw' : w.heap[Wg]? = some (wgBlock lk.tWg st sm) := hw
  exact ⟨heap_lt h.c, heap_lt h.w9, heap_lt hw', fun g hg => (h.row.lt g hg).2⟩

/-- At its loop's head. -/
def AnchC (bc b9 Cm : Nat) (v : Value) (g : Goroutine) : Prop :=
  ∃ T : Array Value, g = G (bC.at ⟨T, []⟩ [.code loopC, .inLoop loopC, .inBlock 0, .code tailC]) [bot] ∧ T.size = 16 ∧ T[0]? = some (.pointer (some ⟨bc, 0, none⟩)) ∧ T[1]? = some (.pointer (some ⟨b9, 0, none⟩)) ∧ T[2]? = some v ∧ T[4]? = some (.chan (some Cm))

/-- What is handed over: the messages, sorted. -/
def ResM (l : List Value) (v : Value) (w : World) : Prop :=
  ∃ (gS cap : Nat) (lm : List M4), l = lm.map M4.val ∧ lm.length = 3 ∧ v = .slice (some ⟨gS, 0, none⟩) 3 cap ∧ ∃ cur, w.heap[gS]? = some (.cells cur 34 (0, 0)) ∧ ∀ (i : Nat) (x : M4), (isort lm)[i]? = some x → ∀ (k : Nat) (u : Value), x.cells[k]? = some u → cur[i * 4 + k]? = some u
noncomputable def opsC2 : Array Oper := match loopC with | .seq (.region _ ops _) _ => ops | _ => #[]
noncomputable def restC2 : Code := match loopC with | .seq _ t => t | _ => .skip

/-- Its way out: its body's end, and the goroutine's. -/
theorem quitsC (T : Array Value) : QuitsD Tryd.prog 3 0 (G (bC.at ⟨T, []⟩ []) [bot]) := by
  refine QuitsD.ctl (g' := G { bC.at ⟨T, []⟩ [] with mode := .returning } [bot]) rfl (fun w => stepG_end) ?_
  refine QuitsD.ctl (g' := G bot []) rfl (fun w => ?_) ?_
  · simp [G, stepG, unwind, doReturn, results, Frame.at, bC, baseD, bot, Tryd.func32, Tryd.f32, seen, GStep.after, goexitEntry]
  refine QuitsD.ctl (g' := { G bot [] with status := .finished }) rfl (fun w => ?_) ⟨rfl, rfl⟩
  simp [G, stepG, unwind, bot, goexitEntry, Frame.catches]
  rfl

set_option maxRecDepth 100000 in
set_option maxHeartbeats 4000000 in
theorem srtWalk (O Q' : Nat → Prop) (B : Nat) (Cw b9 : Nat) (hq9 : Q' b9) : ∃ m, ∀ (gS cap : Nat) (lm : List M4) (w0 w : World) (T : Array Value) (z : Value), O gS → lm.length = 3 → 3 ≤ cap → gS ≠ b9 → w0.heap[b9]? = some (.cells #[.chan (some Cw)] 80 (0, 0)) → HS gS cap lm B w0 w → T.size = 16 → T[1]? = some (.pointer (some ⟨b9, 0, none⟩)) → T[2]? = some (.slice (some ⟨gS, 0, none⟩) 3 cap) → T[5]? = some (.tuple #[z, .bool false]) →
    Goes Tryd.prog false AtRel (DSt O Q' B) (AtSw Tryd.prog Cw ResM (lm.map M4.val) noO) m (G (bC.at ⟨T, []⟩ (.inRegion opsC2 [1] :: [.code restC2, .inLoop loopC, .inBlock 0, .code tailC])) [bot]) w := by
  have Tm := termsSt O Q' B
  obtain ⟨nf, hsort⟩ := sort_c (main := false) O Q' B
  refine ⟨((7 + 10) + nf + 3) + 20, fun gS cap lm w0 w T z hO hl hcap n9 hw9 hF hT t1 t2 t5 => ?_⟩
  obtain ⟨v0, v1, v2, v3, v4, v5, v6, v7, v8, v9, v10, v11, v12, v13, v14, v15, rfl⟩ := array16 T hT
  simp only [List.getElem?_toArray, List.getElem?_cons_succ, List.getElem?_cons_zero, Option.some.injEq] at t1 t2 t5
  subst t1 t2 t5
  simp only [opsC2, restC2, loopC, tailC, bodyC, Tryd.f32, Option.getD_some]
  refine goes_bind0 (n := (7 + 10) + nf + 3) (m := 20) atRel_refl Tm.idle ?_
  u_op HS.rel hF
  u_c stepG_region_end HS.rel hF
  u_c stepG_seq HS.rel hF
  u_cond false HS.rel hF
  u_exit HS.rel hF
  u_c stepG_seq HS.rel hF
  u_reg HS.rel hF
  u_op HS.rel hF
  refine Goes.stop (fun w₁ h₁ => ?_)
  replace hF := hF.rel h₁
  clear h₁
  refine Goes.call (m := 7 + 10) (nf := nf) (Post := fun _ w' => HS gS cap (isort lm) B w₁ w') Tm rfl rfl (by decide) rfl ?_ (fun v w' hp => ?_)
  · walk_nrm
    exact hsort gS cap lm w₁ hO hl hcap hF.self
  replace hF := hF.trans hp
  clear hp
  walk_nrm
  refine goes_bind0 (n := 7) (m := 10) atRel_refl Tm.idle ?_
  u_c stepG_region_end HS.rel hF
  u_reg HS.rel hF
  refine Goes.stop (fun w₁ h₁ => ?_)
  replace hF := hF.rel h₁
  clear h₁
  refine goes_mem (n := 6) rfl rfl (by decide) (fun w₁ h₁ => ?_)
  replace hF := hF.rel h₁
  clear h₁
  have h9 := (hF.other b9 (heap_lt hw9) (Ne.symm n9)).trans hw9
  refine ⟨_, _, _, yld_load1 (ad := ⟨b9, 0, none⟩) (v := .chan (some Cw)) rfl rfl (by rw [cell_of_row _ _ _ _ _ _ h9]; rfl) (Tryd.isAgg80 _) (evAgg _), dst_read (.inr (.inr hq9)), ?_⟩
  clear h9
  walk_nrm
  refine goes_bind0 (n := 0) (m := 6) atRel_refl Tm.idle ?_
  u_op HS.rel hF
  refine Goes.stop (fun w₁ h₁ => ?_)
  replace hF := hF.rel h₁
  clear h₁
  refine Goes.stop (fun w₁ h₁ => ?_)
  replace hF := hF.rel h₁
  clear h₁
  obtain ⟨cur, hcur, _, hcs⟩ := hF.blk
  refine ⟨rfl, .slice (some ⟨gS, 0, none⟩) 3 cap, .tuple #[], ?_, ⟨gS, cap, lm, rfl, hl, rfl, cur, hcur, hcs⟩, 4, ?_⟩
  · rw [stepG_comm (cases := #[scase Cw (.slice (some ⟨gS, 0, none⟩) 3 cap) (.tuple #[])]) (blocking := true) (shape := .send) (w' := w₁) rfl rfl (by decide) (by simp [execOp, scase, Act.eval])]
    simp [listed, execOp, seen, core_G]
  · rw [core_G, served_G]
    walk_nrm
    refine QuitsD.ctl rfl (fun _ => stepG_region_end) ?_
    exact quitsC _

/-- THE CHANNEL IS CLOSED: it sorts, and stands at its send. -/
theorem srtM {Full : List Value → Prop} {lm : List M4} {v : Value} (hfull : Full (lm.map M4.val) → lm.length = 3) (hb9 : ∀ g, v.ownBlock = some g → g ≠ b9) (T : Array Value) (hT : T.size = 16)
    (t1 : T[1]? = some (.pointer (some ⟨b9, 0, none⟩))) (t2 : T[2]? = some v) (z : Value) (t5 : T[5]? = some (.tuple #[z, .bool false])) (w : World) (hK : KC Wg Cm Cw bc b9 v lm w) :
    Srt Tryd.prog (fun b => Q b ∨ b = b9) Cw Full ResM (lm.map M4.val) (fun g => v.ownBlock = some g) (G (bC.at ⟨T, []⟩ (.inRegion opsC2 [1] :: [.code restC2, .inLoop loopC, .inBlock 0, .code tailC])) [bot]) w := by
  intro hf
  have hl := hfull hf
  obtain ⟨gS, cap, cur, rfl, _, hg, hnc, _, hcs, htake⟩ : ∃ g cap cur, v = .slice (some ⟨g, 0, none⟩) lm.length cap ∧ 0 ≤ g ∧ w.heap[g]? = some (.cells cur 34 (0, 0)) ∧ lm.length ≤ cap ∧ cap ≤ maxLen ∧ cur.size = cap * 4 ∧ cur.toList.take (lm.length * 4) = flat lm := by
    rcases hK.row.2 with ⟨_, h⟩ | h
    · omega
    · exact h
  rw [hl] at t2 hnc
  have hblk : ∀ (i : Nat) (x : M4), lm[i]? = some x → ∀ (k : Nat) (u : Value), x.cells[k]? = some u → cur[i * 4 + k]? = some u := fun i x hx k u hu => by
    have h1 := flat_get hx k u hu
    rw [← htake, List.getElem?_take] at h1
    split at h1
    · simpa using h1
    · cases h1
  have hS : HS gS cap lm w.heap.size w w := ⟨⟨cur, hg, hcs, hblk⟩, rfl, rfl, rfl, Nat.le_refl _, fun _ _ _ => rfl, Nat.le_refl _⟩
  obtain ⟨m, hm⟩ := srtWalk (fun g => (Value.slice (some ⟨gS, 0, none⟩) lm.length cap).ownBlock = some g) (fun b => Q b ∨ b = b9) w.heap.size Cw b9 (.inr rfl)
  have hgo := goesO_of_st (St := AtSw Tryd.prog Cw ResM (lm.map M4.val) noO) (Stop := AtSw Tryd.prog Cw ResM (lm.map M4.val)) (fun _ _ _ h => h) (hm gS cap lm w w T z rfl hl hnc (hb9 gS rfl) hK.w9 hS hT t1 t2 t5)
  have hO : (fun b => (Value.slice (some ⟨gS, 0, none⟩) lm.length cap).ownBlock = some b ∨ (w.heap.size ≤ b ∧ b < w.heap.size)) = fun g => (Value.slice (some ⟨gS, 0, none⟩) lm.length cap).ownBlock = some g := by
    funext b
    apply propext
    constructor
    · rintro (h | h)
      · exact h
      · omega
    · exact .inl
  rw [hO] at hgo
  exact ⟨m, hgo⟩
theorem dox_append' {Q' : Nat → Prop} {v v' : Value} {src : Nat} {w w' : World} (hv : ∀ g, v.ownBlock = some g → O g) (hs : O src ∨ Q' src) (hgr : w.grownBy w' v.ownBlock)
    (hv' : ∀ g, v'.ownBlock = some g → v.ownBlock = some g ∨ (w.heap.size ≤ g ∧ g < w'.heap.size)) : ∀ es : Array Event, (∀ e ∈ es, ApE v src e) → DOx O (fun b => v'.ownBlock = some b) Q' w w' es := fun es h =>
  ⟨hgr.tape, hgr.os, hgr.output, hgr.size, fun b hb hn => hgr.block b hb (fun e => hn (hv b e.symm)), fun b e => (hv' b e).elim (fun x => .inl (hv b x)) .inr, fun e he => by
    rcases h e he with ⟨ad, wr, rfl, ⟨rfl, rfl⟩ | h⟩ | ⟨m, rfl, hm⟩
    · exact ⟨rfl, hs.elim (fun x => .inl (.inl x)) fun x => .inr ⟨x, rfl⟩⟩
    · exact ⟨rfl, .inl (.inl (hv _ h.symm))⟩
    · exact hm⟩

/-- The block that an append hands back: the slice's own, or a new one. -/
theorem run_append_blk {P : Program} (w : World) (base : Nat) (t ty e : TypeId) (i : TypeInfo) (z : Value) (size bytes : Nat) (ht : P.underlying t = some (.slice e)) (hi : P.info? e = some i) (hz : i.zero = some z)
    (hsize : i.size = size) (hby : i.bytes = bytes) (v : Value) (n : Nat) (xs : List Value) (hown : w.ownsRow base e size v n xs)
    (a : Addr) (m c : Nat) (news : List Value) (hm : 0 < m) (hl : news.length = m * size) (hnews : ∀ j u, news[j]? = some u → w.cell? (a.add j) = some u) (h1 : ∀ u ∈ news, u.oneCell' = true)
    (h63 : n + m ≤ maxLen) (hbytes : (n + m) * bytes ≤ 140737488355328) {v' : Value} {w' : World} (hr : (Builtin.append_ #[t, t] ty #[v, .slice (some a) m c]).run P w = .ok v' w') :
    ∀ g, v'.ownBlock = some g → v.ownBlock = some g ∨ (w.heap.size ≤ g ∧ g < w'.heap.size) := by
  subst hsize
  subst hby
  have hsmall : n + m ≤ 9223372036854775807 := by simp only [maxLen] at h63; omega
  intro g hg
  rcases hown.2 with ⟨rfl, rfl⟩ | ⟨g0, cap, cur, rfl, _, hg0, hnc, hcm, hcs, htake⟩
  · have h := run_append_nil (P := P) w t ty e i z ht hi hz a m c news hl hnews hm (by omega) (by have hb := hbytes; simp only [Nat.zero_add] at hb; omega)
    rw [h] at hr
    cases hr
    simp only [Value.ownBlock, Option.some.injEq] at hg
    subst hg
    exact .inr ⟨Nat.le_refl _, by simp⟩
  · by_cases hroom : n + m ≤ cap
    · have hfit : n * i.size + news.length ≤ cur.size := by rw [hl, hcs, ← Nat.add_mul]; exact Nat.mul_le_mul_right _ hroom
      have h := run_append_room (P := P) w t ty e i ht hi g0 n cap cur hg0 a m c news hl hnews h1 hroom hfit
      rw [h] at hr
      cases hr
      exact .inl hg
    · have holds : ∀ j u, xs[j]? = some u → w.cell? ((⟨g0, 0, none⟩ : Addr).add j) = some u := hown.cells (g := g0) rfl
      have h := run_append_grow (P := P) w t ty e i z ht hi hz ⟨g0, 0, none⟩ n cap xs hown.1 holds a m c news hl hnews (by omega) (by omega) (growslice_fits (by omega) hbytes)
      rw [h] at hr
      cases hr
      simp only [Value.ownBlock, Option.some.injEq] at hg
      subst hg
      exact .inr ⟨Nat.le_refl _, by simp⟩

/-- AN APPEND OF ONE MESSAGE to the collector's slice. -/
theorem yld_append1 {o : Oper} {a : Act} {w : World} {v : Value} {lm : List M4} {x : M4} {M : Nat} (ho : o.op = .call { callee := .builtin .append, args := #[.tmp 8, .tmp 10], argTypes := #[27, 27] }) (hs : a.eval (.tmp 8) = v) (hx : a.eval (.tmp 10) = .slice (some ⟨M, 0, none⟩) 1 1)
    (hrow : w.ownsRow 0 34 4 v lm.length (flat lm)) (hM : w.heap[M]? = some (.cells x.cells.toArray 34 (0, 0))) (hl : lm.length < 3) :
    ∃ v' w', Yld Tryd.prog o a w (ApE v M) (a.put o.dst v') w' ∧ w'.ownsRow 0 34 4 v' (lm ++ [x]).length (flat (lm ++ [x])) ∧ w.grownBy w' v.ownBlock ∧ ∀ g, v'.ownBlock = some g → v.ownBlock = some g ∨ (w.heap.size ≤ g ∧ g < w'.heap.size) := by
  obtain ⟨i4, hi, hz0, hz1, hz2⟩ := info_parts info34
  have hcell : ∀ j u, x.cells[j]? = some u → w.cell? ((⟨M, 0, none⟩ : Addr).add j) = some u := fun j u hu => by
    rw [add0, Nat.zero_add, cell_of_row _ _ _ _ _ _ hM]
    simpa using hu
  have h1 : ∀ u ∈ x.cells, u.oneCell' = true := by simp [M4.cells, Value.oneCell']
  have h63 : lm.length + 1 ≤ maxLen := by simp only [maxLen]; omega
  have hb : (lm.length + 1) * 48 ≤ 140737488355328 := by omega
  obtain ⟨v', w', hr, h2, h3, _⟩ := run_append_own (P := Tryd.prog) w 0 27 o.type 34 i4 _ 4 48 Tryd.underlying27 hi hz0 hz1 hz2 rfl (by decide) v lm.length (flat lm) hrow ⟨M, 0, none⟩ 1 1 x.cells rfl hcell h1 h63 hb (Nat.zero_le _)
  refine ⟨v', w', ⟨fun K hK => uponK_append (.tmp 8) (.tmp 10) _ ho hs hx hr hK, fun ev hev => ?_⟩, ?_, h3, run_append_blk w 0 _ o.type _ i4 _ 4 48 Tryd.underlying27 hi hz0 hz1 hz2 v lm.length (flat lm) hrow ⟨M, 0, none⟩ 1 1 x.cells (by decide) rfl hcell h1 h63 hb hr⟩
  · rw [events_append_op (.tmp 8) (.tmp 10) _ ho hs hx] at hev
    exact events_append_plain w 0 _ o.type _ i4 _ 4 48 Tryd.underlying27 hi hz0 hz1 hz2 rfl (by decide) v lm.length (flat lm) hrow ⟨M, 0, none⟩ 1 1 x.cells rfl hcell h1 h63 hb (fun y hy => plStore (h1 y hy)) ev hev
  · have e : flat (lm ++ [x]) = flat lm ++ x.cells := by simp [flat]
    rw [e, List.length_append]
    exact h2
theorem ex_append {P : Program} {main : Bool} {R : (Nat → Prop) → World → World → Prop} {Q' : Nat → Prop} {Stop : (Nat → Prop) → Goroutine → World → Prop} {n : Nat} {O : Nat → Prop} {o : Oper} {a : Act} {w₁ : World} {E : Event → Prop} {X : Value → World → Prop} {Gn : Act → Goroutine}
    (key : ∃ v' w', Yld P o a w₁ E (a.put o.dst v') w' ∧ X v' w') (h : ∀ v' w', X v' w' → ∃ O', (∀ es : Array Event, (∀ e ∈ es, E e) → DOx O O' Q' w₁ w' es) ∧ GoesO P main R Q' Stop n O' (Gn (a.put o.dst v')) w') :
    ∃ a' w' E O', Yld P o a w₁ E a' w' ∧ (∀ es, (∀ e ∈ es, E e) → DOx O O' Q' w₁ w' es) ∧ GoesO P main R Q' Stop n O' (Gn a') w' := by
  obtain ⟨v', w', hy, hx⟩ := key
  obtain ⟨O', h1, h2⟩ := h v' w' hx
  exact ⟨_, w', E, O', hy, h1, h2⟩

set_option maxRecDepth 100000 in
set_option maxHeartbeats 4000000 in
/-- From the loop's head to the receive. -/
theorem rcvTo {NextV : Value → (Nat → Prop) → Goroutine → World → Prop} {NextC : (Nat → Prop) → Goroutine → World → Prop} (hc : Q bc) {lm : List M4} {v : Value} {g : Goroutine} {w : World} (hA : AnchC bc b9 Cm v g) (hK : KC Wg Cm Cw bc b9 v lm w)
    (hV : ∀ (T : Array Value) (u : Value) (w₁ : World), T.size = 16 → T[0]? = some (.pointer (some ⟨bc, 0, none⟩)) → T[1]? = some (.pointer (some ⟨b9, 0, none⟩)) → T[2]? = some v → T[4]? = some (.chan (some Cm)) → T[5]? = some (.tuple #[u, .bool true]) → KC Wg Cm Cw bc b9 v lm w₁ → w.heap.size ≤ w₁.heap.size →
      NextV u (fun gS => v.ownBlock = some gS) (G (bC.at ⟨T, []⟩ (.inRegion opsC2 [1] :: [.code restC2, .inLoop loopC, .inBlock 0, .code tailC])) [bot]) w₁)
    (hC : ∀ (T : Array Value) (z : Value) (w₁ : World), T.size = 16 → T[1]? = some (.pointer (some ⟨b9, 0, none⟩)) → T[2]? = some v → T[5]? = some (.tuple #[z, .bool false]) → KC Wg Cm Cw bc b9 v lm w₁ →
      NextC (fun gS => v.ownBlock = some gS) (G (bC.at ⟨T, []⟩ (.inRegion opsC2 [1] :: [.code restC2, .inLoop loopC, .inBlock 0, .code tailC])) [bot]) w₁) :
    GoesO Tryd.prog false (RO lk.tWg Wg (fun b => Q b ∨ b = b9)) (fun b => Q b ∨ b = b9) (AtRc Tryd.prog lk.tWg Wg Cm (fun b => Q b ∨ b = b9) NextV NextC) 5 (fun gS => v.ownBlock = some gS) g w := by
  obtain ⟨T, hg, hT, t0, t1, t2, t4⟩ := hA
  subst hg
  obtain ⟨v0, v1, v2, v3, v4, v5, v6, v7, v8, v9, v10, v11, v12, v13, v14, v15, rfl⟩ := array16 T hT
  simp only [List.getElem?_toArray, List.getElem?_cons_succ, List.getElem?_cons_zero, Option.some.injEq] at t0 t1 t2 t4
  subst t0 t1 t2 t4
  have hsz0 : w.heap.size ≤ w.heap.size := Nat.le_refl _
  have hK2 := And.intro hK hsz0
  have rl : ∀ {w' w₁ : World}, (KC Wg Cm Cw bc b9 v2 lm w' ∧ w.heap.size ≤ w'.heap.size) → RO lk.tWg Wg (fun b => Q b ∨ b = b9) (fun gS => v2.ownBlock = some gS) w' w₁ → KC Wg Cm Cw bc b9 v2 lm w₁ ∧ w.heap.size ≤ w₁.heap.size := fun h r => ⟨h.1.rely hc (fun _ h => h) r, Nat.le_trans h.2 r.size⟩
  clear hK hsz0
  refine GoesO.of_goes (n := 0) (m := 5) roRf (fun _ _ x => x) ?_
  simp only [loopC, tailC, opsC2, restC2, bodyC, Tryd.f32, Option.getD_some] at hV hC ⊢
  u_c stepG_seq rl hK2
  u_reg rl hK2
  refine Goes.stop (fun w₁ h₁ => ?_)
  replace hK2 := rl hK2 h₁
  clear h₁
  refine GoesO.stop (fun w₁ h₁ => ?_)
  replace hK2 := rl hK2 h₁
  clear h₁
  refine ⟨rfl, _, stepG_recv rfl rfl (by decide) rfl rfl ⟨_, Tryd.underlying71⟩ (Tryd.zeroValue34 _), fun u w₂ h₂ => ?_, fun w₂ h₂ => ?_⟩
  · replace hK2 := rl hK2 h₂
    rw [core_G, served_G]
    walk_nrm
    exact hV _ u w₂ rfl rfl rfl rfl rfl rfl hK2.1 hK2.2
  · replace hK2 := rl hK2 h₂
    rw [core_G, served_G]
    walk_nrm
    exact hC _ _ w₂ rfl rfl rfl rfl hK2.1

set_option maxRecDepth 100000 in
set_option maxHeartbeats 4000000 in
/-- FROM THE LOOP's HEAD. -/
theorem rcvHead {Poss Full : List Value → Prop} (hposs : ∀ l v, Poss (l ++ [v]) → l.length < 3 ∧ ∃ x : M4, v = x.val) (hfull : ∀ lm : List M4, Full (lm.map M4.val) → lm.length = 3) (hc : Q bc) (hqw : ¬ Q Wg) (h9w : b9 ≠ Wg) :
    ∀ (r : Nat) (lm : List M4) (v : Value) (g : Goroutine) (w : World), (∀ gS, v.ownBlock = some gS → ¬ Q gS ∧ gS ≠ b9 ∧ gS ≠ Wg) → AnchC bc b9 Cm v g → KC Wg Cm Cw bc b9 v lm w → (∀ b, Q b → b < w.heap.size) →
      GoesO Tryd.prog false (RO lk.tWg Wg (fun b => Q b ∨ b = b9)) (fun b => Q b ∨ b = b9) (AtRc Tryd.prog lk.tWg Wg Cm (fun b => Q b ∨ b = b9) (NxV Tryd.prog lk.tWg Wg Cm (fun b => Q b ∨ b = b9) Cw Poss Full ResM r (lm.map M4.val)) (Srt Tryd.prog (fun b => Q b ∨ b = b9) Cw Full ResM (lm.map M4.val)))
        5 (fun gS => v.ownBlock = some gS) g w := by
  intro r
  induction r with
  | zero =>
    intro lm v g w hv hA hK hQs
    exact rcvTo hc hA hK (fun _ _ _ _ _ _ _ _ _ _ _ => trivial) fun T z w₁ hT t1 t2 t5 hK₁ => srtM (hfull lm) (fun gS h => (hv gS h).2.1) T hT t1 t2 z t5 w₁ hK₁
  | succ r ih =>
    intro lm v g w hv hA hK hQs
    refine rcvTo hc hA hK (fun T u w₁ hT t0 t1 t2 t4 t5 hK₁ hsz hp => ?_) fun T z w₁ hT t1 t2 t5 hK₁ => srtM (hfull lm) (fun gS h => (hv gS h).2.1) T hT t1 t2 z t5 w₁ hK₁
    obtain ⟨hl3, x, rfl⟩ := hposs _ _ hp
    rw [List.length_map] at hl3
    rw [rcv_iff]
    have hQs₁ : ∀ b, Q b → b < w₁.heap.size := fun b hb => Nat.lt_of_lt_of_le (hQs b hb) hsz
    clear hA hK hsz hQs w hp
    obtain ⟨v0, v1, v2, v3, v4, v5, v6, v7, v8, v9, v10, v11, v12, v13, v14, v15, rfl⟩ := array16 T hT
    simp only [List.getElem?_toArray, List.getElem?_cons_succ, List.getElem?_cons_zero, Option.some.injEq] at t0 t1 t2 t4 t5
    subst t0 t1 t2 t4 t5
    have hF := And.intro hK₁ hQs₁
    clear hK₁ hQs₁
    have rl : ∀ {w w₁ : World}, (KC Wg Cm Cw bc b9 v2 lm w ∧ ∀ b, Q b → b < w.heap.size) → RO lk.tWg Wg (fun b => Q b ∨ b = b9) (fun gS => v2.ownBlock = some gS) w w₁ → KC Wg Cm Cw bc b9 v2 lm w₁ ∧ ∀ b, Q b → b < w₁.heap.size := fun h r => ⟨h.1.rely hc (fun _ h => h) r, fun b hb => Nat.lt_of_lt_of_le (h.2 b hb) r.size⟩
    refine ⟨60 + 30, ?_⟩
    refine GoesO.of_goes (n := 60) (m := 30) roRf (fun _ _ x => x) ?_
    simp only [opsC2, restC2, loopC, tailC, bodyC, Tryd.f32, Option.getD_some]
    u_op rl hF
    u_c stepG_region_end rl hF
    u_c stepG_seq rl hF
    u_cond true rl hF
    u_c stepG_skip rl hF
    u_c stepG_block rl hF
    u_c stepG_seq rl hF
    u_reg rl hF
    u_op rl hF
    refine Goes.stop (fun w₁ h₁ => ?_)
    replace hF := rl hF h₁
    clear h₁
    -- the box of the message
    refine GoesO.mem (n := 59) rfl rfl (by decide) (fun w₁ h₁ => ?_)
    replace hF := rl hF h₁
    clear h₁
    refine ⟨_, _, _, _, yld_alloc rfl (Tryd.zeroValue34 _) (evZero _), dox_new _, ?_⟩
    obtain ⟨l1, l2, l3, l4⟩ := hF.1.lt
    obtain ⟨N, hN⟩ : ∃ N, w₁.heap.size = N := ⟨_, rfl⟩
    have n1 : N ≠ bc := by omega
    have n2 : N ≠ b9 := by omega
    have n3 : N ≠ Wg := by omega
    have n4 : v2.ownBlock ≠ some N := fun h => by have := l4 N h; omega
    have n5 : ¬ Q N := fun h => by have := hF.2 N h; omega
    have hA := heap_alloc_new w₁ (.cells (Value.agg #[.int .i64 0, .string { data := #[] }, .int .i64 0, .string { data := #[] }]).cells 34)
    have hF1 := hF.1.own (b := N) (w₁ := w₁.alloc (.cells (Value.agg #[.int .i64 0, .string { data := #[] }, .int .i64 0, .string { data := #[] }]).cells 34)) (fun k hk _ => heap_alloc_old w₁ _ k hk) n1 n2 n4 n3
    have hF2 : ∀ b, Q b → b < (w₁.alloc (.cells (Value.agg #[.int .i64 0, .string { data := #[] }, .int .i64 0, .string { data := #[] }]).cells 34)).heap.size := fun b hb => by have := hF.2 b hb; simp; omega
    rw [hN] at hA ⊢
    clear l1 l2 l3 l4 hN hF
    have hF := And.intro (And.intro hF1 hF2) hA
    clear hF1 hF2 hA
    generalize hw : w₁.alloc _ = w₂ at hF ⊢
    clear hw w₁
    have rl2 : ∀ {C : Array Value} {w w₁ : World}, ((KC Wg Cm Cw bc b9 v2 lm w ∧ ∀ b, Q b → b < w.heap.size) ∧ w.heap[N]? = some (.cells C 34 (0, 0))) → RO lk.tWg Wg (fun b => Q b ∨ b = b9) (fun b => v2.ownBlock = some b ∨ b = N) w w₁ →
        (KC Wg Cm Cw bc b9 v2 lm w₁ ∧ ∀ b, Q b → b < w₁.heap.size) ∧ w₁.heap[N]? = some (.cells C 34 (0, 0)) :=
      fun h r => ⟨⟨h.1.1.rely hc (fun _ h => .inl h) r, fun b hb => Nat.lt_of_lt_of_le (h.1.2 b hb) r.size⟩, (r.block N (.inl (.inr rfl))).trans h.2⟩
    walk_nrm
    -- it is filled
    refine GoesO.mem (n := 58) rfl rfl (by decide) (fun w₁ h₁ => ?_)
    replace hF := rl2 hF h₁
    clear h₁ w₂
    refine ⟨_, _, _, _, yld_store (v := .agg x.cells.toArray) rfl rfl rfl hF.2 (Tryd.sizeOf34 _) (evSize _) rfl (by simp [Value.cells, M4.cells, Value.oneCell']), dox_row (.inr rfl) _, ?_⟩
    have hA := setRow_heap w₁ N _ (Value.agg x.cells.toArray).cells _ _ hF.2
    have hF1 := hF.1.1.own (b := N) (w₁ := w₁.setRow N (Value.agg x.cells.toArray).cells) (fun k _ hk => setRow_other w₁ N k _ hk) n1 n2 n4 n3
    have hF2 : ∀ b, Q b → b < (w₁.setRow N (Value.agg x.cells.toArray).cells).heap.size := fun b hb => by have := hF.1.2 b hb; simpa using this
    clear hF
    have hF := And.intro (And.intro hF1 hF2) hA
    clear hF1 hF2 hA
    generalize hw : w₁.setRow N _ = w₂ at hF ⊢
    clear hw w₁
    refine GoesO.of_goes (n := 48) (m := 10) roRf (fun _ _ x => x) ?_
    walk_nrm
    u_c stepG_region_end rl2 hF
    u_reg rl2 hF
    u_op rl2 hF
    refine Goes.stop (fun w₁ h₁ => ?_)
    replace hF := rl2 hF h₁
    clear h₁
    -- it is read
    refine GoesO.mem (n := 47) rfl rfl (by decide) (fun w₁ h₁ => ?_)
    replace hF := rl2 hF h₁
    clear h₁
    refine ⟨_, _, _, _, yld_load (b := N) (off := 0) (cs := x.cells) rfl rfl (fun i v hv => by rw [cell_of_row _ _ _ _ _ _ hF.2]; simpa [Value.cells] using hv) (Tryd.isAgg34 _) (Tryd.sizeOf34 _) (evAgg _) (evSize _), dox_read (.inl (.inr rfl)), ?_⟩
    walk_nrm
    -- a slice of it
    obtain ⟨i4, hi, hz0, hz1, hz2⟩ := info_parts info34
    refine GoesO.mem (n := 46) rfl rfl (by decide) (fun w₁ h₁ => ?_)
    replace hF := rl2 hF h₁
    clear h₁
    refine ⟨_, _, _, _, yld_buildSlice (cells := x.cells.toArray) rfl Tryd.underlying27 hi hz0 (by rw [hz1]; decide) (by rw [hz1]; decide) ?_, dox_new _, ?_⟩
    · rw [hz1]
      refine (congrArg (Instr.fill _ _) ?_).trans (fill4 x)
      simp [Act.eval, M4.val]
    obtain ⟨l1, l2, l3, l4⟩ := hF.1.1.lt
    have l5 := heap_lt hF.2
    obtain ⟨M, hM⟩ : ∃ M, w₁.heap.size = M := ⟨_, rfl⟩
    have m1 : M ≠ bc := by omega
    have m2 : M ≠ b9 := by omega
    have m3 : M ≠ Wg := by omega
    have m4 : v2.ownBlock ≠ some M := fun h => by have := l4 M h; omega
    have m5 : ¬ Q M := fun h => by have := hF.1.2 M h; omega
    have hA := heap_alloc_new w₁ (.cells x.cells.toArray 34)
    have hF1 := hF.1.1.own (b := M) (w₁ := w₁.alloc (.cells x.cells.toArray 34)) (fun k hk _ => heap_alloc_old w₁ _ k hk) m1 m2 m4 m3
    have hF2 : ∀ b, Q b → b < (w₁.alloc (.cells x.cells.toArray 34)).heap.size := fun b hb => by have := hF.1.2 b hb; simp; omega
    rw [hM] at hA ⊢
    clear l1 l2 l3 l4 l5 hM hF
    have hF := And.intro (And.intro hF1 hF2) hA
    clear hF1 hF2 hA rl2
    generalize hw : w₁.alloc _ = w₂ at hF ⊢
    clear hw w₁
    have rl3 : ∀ {w w₁ : World}, ((KC Wg Cm Cw bc b9 v2 lm w ∧ ∀ b, Q b → b < w.heap.size) ∧ w.heap[M]? = some (.cells x.cells.toArray 34 (0, 0))) → RO lk.tWg Wg (fun b => Q b ∨ b = b9) (fun b => (v2.ownBlock = some b ∨ b = N) ∨ b = M) w w₁ →
        (KC Wg Cm Cw bc b9 v2 lm w₁ ∧ ∀ b, Q b → b < w₁.heap.size) ∧ w₁.heap[M]? = some (.cells x.cells.toArray 34 (0, 0)) :=
      fun h r => ⟨⟨h.1.1.rely hc (fun _ h => .inl (.inl h)) r, fun b hb => Nat.lt_of_lt_of_le (h.1.2 b hb) r.size⟩, (r.block M (.inl (.inr rfl))).trans h.2⟩
    walk_nrm
    -- append
    refine GoesO.mem (n := 45) rfl rfl (by decide) (fun w₁ h₁ => ?_)
    replace hF := rl3 hF h₁
    clear h₁ w₂
    refine ex_append (Gn := fun a' => G (bC.at a' _) _) (yld_append1 rfl rfl rfl hF.1.1.row hF.2 hl3) (fun v' w' ⟨hrow, hgr, hblk⟩ => ?_)
    refine ⟨_, dox_append' (fun g hg => .inl (.inl hg)) (.inl (.inr rfl)) hgr hblk, ?_⟩
    have hKC : KC Wg Cm Cw bc b9 v' (lm ++ [x]) w' := by
      obtain ⟨st, sm, hw⟩ := hF.1.1.live
      have hw' : w₁.heap[Wg]? = some (wgBlock lk.tWg st sm) := hw
      exact ⟨(hgr.block bc (heap_lt hF.1.1.c) fun h => (hv bc h.symm).1 hc).trans hF.1.1.c, (hgr.block b9 (heap_lt hF.1.1.w9) fun h => (hv b9 h.symm).2.1 rfl).trans hF.1.1.w9, hrow, st, sm, (hgr.block Wg (heap_lt hw') fun h => (hv Wg h.symm).2.2 rfl).trans hw'⟩
    have hv' : ∀ gS, v'.ownBlock = some gS → ¬ Q gS ∧ gS ≠ b9 ∧ gS ≠ Wg := fun gS h => by
      rcases hblk gS h with h | ⟨h, _⟩
      · exact hv gS h
      · obtain ⟨l1, l2, l3, l4⟩ := hF.1.1.lt
        exact ⟨fun hq => by have := hF.1.2 gS hq; omega, by omega, by omega⟩
    have hQ' : ∀ b, Q b → b < w'.heap.size := fun b hb => Nat.lt_of_lt_of_le (hF.1.2 b hb) hgr.size
    clear hF hrow hgr hblk rl3 hv rl
    have hF := And.intro hKC hQ'
    clear hKC hQ'
    have rl : ∀ {w w₁ : World}, (KC Wg Cm Cw bc b9 v' (lm ++ [x]) w ∧ ∀ b, Q b → b < w.heap.size) → RO lk.tWg Wg (fun b => Q b ∨ b = b9) (fun gS => v'.ownBlock = some gS) w w₁ → KC Wg Cm Cw bc b9 v' (lm ++ [x]) w₁ ∧ ∀ b, Q b → b < w₁.heap.size := fun h r => ⟨h.1.rely hc (fun _ h => h) r, fun b hb => Nat.lt_of_lt_of_le (h.2 b hb) r.size⟩
    refine GoesO.of_goes (n := 5) (m := 40) roRf (fun _ _ x => x) ?_
    walk_nrm
    u_op rl hF
    u_c stepG_region_end rl hF
    u_c stepG_inBlock rl hF
    u_c stepG_inLoop rl hF
    refine Goes.stop (fun w₃ h₃ => ?_)
    replace hF := rl hF h₃
    have hm : (lm ++ [x]).map M4.val = lm.map M4.val ++ [x.val] := by simp
    rw [← hm]
    exact ih (lm ++ [x]) v' _ w₃ hv' ⟨_, rfl, rfl, rfl, rfl, rfl, rfl⟩ hF.1 hF.2
theorem bornC_step (w : World) : stepG Tryd.prog false (born Tryd.prog (callC bc b9)) w =
    .go (G (bC.at ⟨#[.pointer (some ⟨bc, 0, none⟩), .pointer (some ⟨b9, 0, none⟩), undef, undef, undef, undef, undef, undef, undef, undef, undef, undef, undef, undef, undef, undef], []⟩ [.code bodyC]) [bot]) w #[] := by
  simp [born, callC, stepG, unwind, callDeferred, invoke, callFunc, Tryd.func32, Tryd.f32, seen, GStep.after, G, Frame.enter, Frame.at, bC, baseD, bot, bodyC]

set_option maxRecDepth 100000 in
set_option maxHeartbeats 4000000 in
/-- ████ THE COLLECTOR's WHOLE WORK ████ -/
theorem collectsAll {Poss Full : List Value → Prop} {w0 : World} (hposs : ∀ l v, Poss (l ++ [v]) → l.length < 3 ∧ ∃ x : M4, v = x.val) (hfull : ∀ lm : List M4, Full (lm.map M4.val) → lm.length = 3) (hc : Q bc) (hqw : ¬ Q Wg) (h9w : b9 ≠ Wg) (hq0 : ∀ b, Q b → b < w0.heap.size) (tot : Nat)
    (w : World) (hK : FK Cm Cw bc b9 Q w0 w ∧ WgLive lk.tWg Wg w) : Rcv Tryd.prog lk.tWg Wg Cm (fun b => Q b ∨ b = b9) Cw Poss Full ResM tot [] noO (born Tryd.prog (callC bc b9)) w := by
  have hO : (fun gS => (Value.slice none 0 0).ownBlock = some gS) = noO := by funext b; simp [Value.ownBlock, noO]
  rw [rcv_iff, ← hO]
  have hF : KC Wg Cm Cw bc b9 (.slice none 0 0) [] w ∧ ∀ b, Q b → b < w.heap.size := ⟨⟨hK.1.c, hK.1.w9, World.ownsRow_nil _ _ _ _, hK.2⟩, fun b hb => Nat.lt_of_lt_of_le (hq0 b hb) hK.1.same.size⟩
  clear hK
  have rl : ∀ {w w₁ : World}, (KC Wg Cm Cw bc b9 (.slice none 0 0) [] w ∧ ∀ b, Q b → b < w.heap.size) → RO lk.tWg Wg (fun b => Q b ∨ b = b9) (fun gS => (Value.slice none 0 0).ownBlock = some gS) w w₁ → KC Wg Cm Cw bc b9 (.slice none 0 0) [] w₁ ∧ ∀ b, Q b → b < w₁.heap.size := fun h r => ⟨h.1.rely hc (fun _ h => h) r, fun b hb => Nat.lt_of_lt_of_le (h.2 b hb) r.size⟩
  refine ⟨(5 + 10 + 1) + 20, GoesO.of_goes (n := 5 + 10 + 1) (m := 20) roRf (fun _ _ x => x) ?_⟩
  refine Goes.step rfl fun w₁ r₁ => ?_
  rw [bornC_step]
  refine ⟨⟨rfl, rfl⟩, ?_⟩
  replace hF := rl hF r₁
  clear r₁
  simp only [bodyC, Tryd.f32, Option.getD_some]
  u_c stepG_seq rl hF
  u_reg rl hF
  u_op rl hF
  u_c stepG_region_end rl hF
  u_c stepG_seq rl hF
  u_c stepG_seq rl hF
  u_reg rl hF
  refine Goes.stop (fun w₁ h₁ => ?_)
  replace hF := rl hF h₁
  clear h₁
  refine GoesO.mem (n := 5 + 10) rfl rfl (by decide) (fun w₁ h₁ => ?_)
  replace hF := rl hF h₁
  clear h₁
  refine ⟨_, _, _, _, yld_load1 (ad := ⟨bc, 0, none⟩) (v := .chan (some Cm)) rfl rfl (by rw [cell_of_row _ _ _ _ _ _ hF.1.c]; rfl) (Tryd.isAgg71 _) (evAgg _), dox_read (.inr (.inl hc)), ?_⟩
  walk_nrm
  refine GoesO.of_goes (n := 5) (m := 10) roRf (fun _ _ x => x) ?_
  u_c stepG_region_end rl hF
  u_c stepG_block rl hF
  u_c stepG_loop rl hF
  refine Goes.stop fun w₁ h₁ => ?_
  replace hF := rl hF h₁
  exact rcvHead hposs hfull hc hqw h9w tot [] (.slice none 0 0) _ w₁ (fun gS h => by cases h) ⟨_, rfl, rfl, rfl, rfl, rfl, rfl⟩ hF.1 hF.2
end
end Go.Proofs.YtmmjlngbiilagaaDoor

/-
  MERGE OF TWO STREAMS OF THREE MESSAGES: from the make of the channel to the fan-in's beginning.
-/
namespace Go.Proofs.YtmmjlngbiilagaaDoor
open Go Go.Conc Go.RowKit Go.Conc.Lib Go.ConcR.Gen Go.Lib
open Go.ConcR (KK wgBlock WgAt stA smA rd wr mk DC0)
open Go.ConcN (WgLive AtD4 WD sumTo upd)

def noShun (_ : Loc) : Prop := False
theorem evL_none {B : Nat} {e : Event} (h : e.loc ≠ .mark .disable) (h' : e.loc ≠ .mark .enable) (hl : (MemAct.ofEvent e).low B) : Go.Conc.EvL (fun _ => False) B e := ⟨fun _ _ h => h.elim, h, h', hl⟩

section
variable {F : Event → Prop} {w : World}
theorem db_none : ∀ es : Array Event, (∀ e ∈ es, NoE e) → DB (fun _ => False) F w w es := fun es h => ⟨Nat.le_refl _, fun e he => (h e he).elim⟩
theorem db_new (ob : Obj) : ∀ es : Array Event, (∀ e ∈ es, NoE e) → DB (fun _ => False) F w (w.alloc ob) es := fun es h => ⟨by simp, fun e he => (h e he).elim⟩
theorem db_cell {ad : Addr} {wr : Bool} {B : Nat} (h : ad.block < B) : Go.Conc.EvL (fun _ => False) B ⟨.cell ad, wr, false⟩ := evL_none (by simp) (by simp) h
theorem db_row {g : Nat} (hg : g < w.heap.size) (hF : ∀ (ad : Addr) (wr : Bool), ad.block = g → F ⟨.cell ad, wr, false⟩) (cells : Array Value) : ∀ es : Array Event, (∀ e ∈ es, AcB g e) → DB (fun _ => False) F w (w.setRow g cells) es := fun es h =>
  ⟨by simp, fun e he => by
    obtain ⟨ad, wr, rfl, hb⟩ := h e he
    exact ⟨db_cell (by rw [hb]; simpa using hg), hF ad wr hb⟩⟩
theorem db_read {g : Nat} (hg : g < w.heap.size) (hF : ∀ (ad : Addr), ad.block = g → F ⟨.cell ad, false, false⟩) : ∀ es : Array Event, (∀ e ∈ es, RdB g e) → DB (fun _ => False) F w w es := fun es h =>
  ⟨Nat.le_refl _, fun e he => by
    obtain ⟨ad, rfl, hb⟩ := h e he
    exact ⟨db_cell (by rw [hb]; exact hg), hF ad hb⟩⟩
theorem db_idle (w : World) : DB (fun _ => False) F w w #[] := ⟨Nat.le_refl _, by simp⟩
end

/-! ### two streams: 2 and 1 messages -/
def v2 (x y z : M4) : Nat → List Value
  | 0 => [x.val, y.val]
  | 1 => [z.val]
  | _ => []
theorem mrg_cases {x y z : M4} {l : List Value} {rem : Nat → List Value} (h : Mrg 2 (v2 x y z) l rem) :
    (l = [] ∧ rem 0 = [x.val, y.val] ∧ rem 1 = [z.val]) ∨ (l = [x.val] ∧ rem 0 = [y.val] ∧ rem 1 = [z.val]) ∨ (l = [z.val] ∧ rem 0 = [x.val, y.val] ∧ rem 1 = []) ∨
    (l = [x.val, y.val] ∧ rem 0 = [] ∧ rem 1 = [z.val]) ∨ (l = [x.val, z.val] ∧ rem 0 = [y.val] ∧ rem 1 = []) ∨ (l = [z.val, x.val] ∧ rem 0 = [y.val] ∧ rem 1 = []) ∨
    (l = [x.val, y.val, z.val] ∧ rem 0 = [] ∧ rem 1 = []) ∨ (l = [x.val, z.val, y.val] ∧ rem 0 = [] ∧ rem 1 = []) ∨ (l = [z.val, x.val, y.val] ∧ rem 0 = [] ∧ rem 1 = []) := by
  induction h with
  | nil => exact .inl ⟨rfl, rfl, rfl⟩
  | @take l rem i v vs _ hi hr ih =>
    obtain rfl | rfl : i = 0 ∨ i = 1 := by omega
    all_goals rcases ih with ⟨rfl, h0, h1⟩ | ⟨rfl, h0, h1⟩ | ⟨rfl, h0, h1⟩ | ⟨rfl, h0, h1⟩ | ⟨rfl, h0, h1⟩ | ⟨rfl, h0, h1⟩ | ⟨rfl, h0, h1⟩ | ⟨rfl, h0, h1⟩ | ⟨rfl, h0, h1⟩
    all_goals (first | rw [h0] at hr | rw [h1] at hr)
    all_goals (try cases hr)
    all_goals simp [upd, h0, h1]

def PossX (x y z : M4) (l : List Value) : Prop := ∃ rem, Mrg 2 (v2 x y z) l rem
def FullX (x y z : M4) (l : List Value) : Prop := ∃ rem, Mrg 2 (v2 x y z) l rem ∧ ∀ i, i < 2 → rem i = []
theorem possX {x y z : M4} (l : List Value) (v : Value) (h : PossX x y z (l ++ [v])) : l.length < 3 ∧ ∃ u : M4, v = u.val := by
  obtain ⟨rem, h⟩ := h
  have hs : ∀ {ys : List Value} {y : Value}, l ++ [v] = ys ++ [y] → l = ys ∧ v = y := fun h => by
    have := List.append_inj' h rfl
    exact ⟨this.1, by simpa using this.2⟩
  rcases mrg_cases h with ⟨h, _⟩ | ⟨h, _⟩ | ⟨h, _⟩ | ⟨h, _⟩ | ⟨h, _⟩ | ⟨h, _⟩ | ⟨h, _⟩ | ⟨h, _⟩ | ⟨h, _⟩
  · simp at h
  · obtain ⟨rfl, rfl⟩ := hs (ys := []) h; exact ⟨by simp, _, rfl⟩
  · obtain ⟨rfl, rfl⟩ := hs (ys := []) h; exact ⟨by simp, _, rfl⟩
  · obtain ⟨rfl, rfl⟩ := hs (ys := [_]) h; exact ⟨by simp, _, rfl⟩
  · obtain ⟨rfl, rfl⟩ := hs (ys := [_]) h; exact ⟨by simp, _, rfl⟩
  · obtain ⟨rfl, rfl⟩ := hs (ys := [_]) h; exact ⟨by simp, _, rfl⟩
  · obtain ⟨rfl, rfl⟩ := hs (ys := [_, _]) h; exact ⟨by simp, _, rfl⟩
  · obtain ⟨rfl, rfl⟩ := hs (ys := [_, _]) h; exact ⟨by simp, _, rfl⟩
  · obtain ⟨rfl, rfl⟩ := hs (ys := [_, _]) h; exact ⟨by simp, _, rfl⟩
theorem val_inj {x y : M4} (h : x.val = y.val) : x = y := by
  obtain ⟨a, b, c, d⟩ := x
  obtain ⟨a', b', c', d'⟩ := y
  simp [M4.val, M4.cells] at h
  obtain ⟨rfl, rfl, rfl, rfl⟩ := h
  rfl
theorem map_inj : ∀ {l l' : List M4}, l.map M4.val = l'.map M4.val → l = l'
  | [], [], _ => rfl
  | [], _ :: _, h => by simp at h
  | _ :: _, [], h => by simp at h
  | x :: l, y :: l', h => by
    simp only [List.map_cons, List.cons.injEq] at h
    rw [val_inj h.1, map_inj h.2]
theorem fullX {x y z : M4} {lm : List M4} (h : FullX x y z (lm.map M4.val)) : lm = [x, y, z] ∨ lm = [x, z, y] ∨ lm = [z, x, y] := by
  obtain ⟨rem, h, hn⟩ := h
  have n0 := hn 0 (by omega)
  have n1 := hn 1 (by omega)
  rcases mrg_cases h with ⟨h, h0, h1⟩ | ⟨h, h0, h1⟩ | ⟨h, h0, h1⟩ | ⟨h, h0, h1⟩ | ⟨h, h0, h1⟩ | ⟨h, h0, h1⟩ | ⟨h, h0, h1⟩ | ⟨h, h0, h1⟩ | ⟨h, h0, h1⟩
  all_goals first
    | (rw [n0] at h0; cases h0; done)
    | (rw [n1] at h1; cases h1; done)
    | exact .inl (map_inj h)
    | exact .inr (.inl (map_inj h))
    | exact .inr (.inr (map_inj h))

theorem resM_ok : ∀ l v w d, ResM l v w → ResM l v (w.at d) := fun l v w d h => h
theorem resM_put : ∀ l v w c cap buf cl s r tm s' r', w.heap[c]? = some (.chan cap buf cl s r tm) → ResM l v w → ResM l v (w.setChan c cap buf cl s' r' tm) := by
  rintro l v w c cap buf cl s r tm s' r' hc ⟨gS, cp, lm, h1, h2, h3, cur, h4, h5⟩
  refine ⟨gS, cp, lm, h1, h2, h3, cur, ?_, h5⟩
  have hne : c ≠ gS := fun e => by rw [e, h4] at hc; cases hc
  simp only [World.setChan]
  rw [Array.getElem?_setIfInBounds_ne hne]
  exact h4
noncomputable def tail4M : Code := match bodyM with | .seq _ (.seq _ t) => t | _ => .skip

/-- The world at the fan-in's beginning: the channel, its box, the group. -/
def w1F (w : World) : World := w.alloc (.chan 0 #[] false 0 0 false)
def w2F (w : World) : World := (w1F w).alloc (.cells #[.chan none] 71)
def w3F (w : World) : World := (w2F w).setRow (w.heap.size + 1) #[.chan (some w.heap.size)]
def wF (w : World) : World := (w3F w).alloc (.cells #[.int .u64 0, .int .u32 0] 78)
theorem size_wF (w : World) : (wF w).heap.size = w.heap.size + 3 := by simp [wF, w3F, w2F, w1F]
theorem old_wF (w : World) {b : Nat} (hb : b < w.heap.size) : (wF w).heap[b]? = w.heap[b]? := by
  unfold wF w3F w2F w1F
  rw [heap_alloc_old _ _ b (by simp; omega), setRow_other _ _ b _ (by omega), heap_alloc_old _ _ b (by simp; omega), heap_alloc_old _ _ b hb]
theorem chan_wF (w : World) : (wF w).heap[w.heap.size]? = some (.chan 0 #[] false 0 0 false) := by
  unfold wF w3F w2F w1F
  rw [heap_alloc_old _ _ _ (by simp; omega), setRow_other _ _ _ _ (by omega), heap_alloc_old _ _ _ (by simp)]
  exact heap_alloc_new w _
theorem box_w2F (w : World) : (w2F w).heap[w.heap.size + 1]? = some (.cells #[.chan none] 71 (0, 0)) := by
  have := heap_alloc_new (w1F w) (.cells #[.chan none] 71)
  have e : (w1F w).heap.size = w.heap.size + 1 := by simp [w1F]
  rw [e] at this
  exact this
theorem box_wF (w : World) : (wF w).heap[w.heap.size + 1]? = some (.cells #[.chan (some w.heap.size)] 71 (0, 0)) := by
  unfold wF w3F
  rw [heap_alloc_old _ _ _ (by simp [w2F, w1F])]
  exact setRow_heap _ _ _ _ _ _ (box_w2F w)
theorem wg_wF (w : World) : (wF w).heap[w.heap.size + 2]? = some (.cells #[.int .u64 0, .int .u32 0] 78 (0, 0)) := by
  have := heap_alloc_new (w3F w) (.cells #[.int .u64 0, .int .u32 0] 78)
  have e : (w3F w).heap.size = w.heap.size + 2 := by simp [w3F, w2F, w1F]
  rw [e] at this
  exact this

/-- What is read by all, from the fan-in's beginning on: all but the channel and the group. -/
def QF (w : World) (b : Nat) : Prop := b < w.heap.size + 3 ∧ b ≠ w.heap.size ∧ b ≠ w.heap.size + 2

noncomputable def XM (w : World) (cs : List Frame) (x y z : M4) : Cx :=
  { P := Tryd.prog, ty := lk.tWg, Wg := w.heap.size + 2, Cm := w.heap.size, Q := QF w, N := 2, vals := v2 x y z, Poss := PossX x y z, Full := FullX x y z, Res := ResM, NextM := NextMM (w.heap.size + 2) (QF w) (wF w) cs, tot := 3, L := 0, Shun := fun _ => False }
theorem wholeX (w : World) (cs : List Frame) (x y z : M4) : Whole (XM w cs x y z) := ⟨resM_ok, resM_put, fun l rem h => ⟨rem, h⟩, fun l rem h hn => ⟨rem, h, hn⟩, show (2 : Nat) < 2147483648 from by decide⟩

/-- Drawn, behind the same step. -/
theorem Drawn.alloc {w w' : World} (h : Drawn w w') (o : Obj) : Drawn (w.alloc o) (w'.alloc o) := by obtain ⟨d, rfl⟩ := h; exact ⟨d, rfl⟩
theorem Drawn.setRow {w w' : World} (h : Drawn w w') (g : Nat) (cs : Array Value) : Drawn (w.setRow g cs) (w'.setRow g cs) := by
  obtain ⟨d, rfl⟩ := h
  exact ⟨d, rfl⟩
theorem Drawn.heap {w w' : World} (h : Drawn w w') : w'.heap = w.heap := by obtain ⟨d, rfl⟩ := h; rfl

theorem mkChan71 (w : World) : (Instr.makeChan 71 (.int .i64 0)).run Tryd.prog w = .ok (.chan (some w.heap.size)) (w.alloc (.chan 0 #[] false 0 0 false)) := by
  obtain ⟨i4, hi, _, _, hz2⟩ := info_parts info34
  exact run_makeChan Tryd.underlying71 hi .i64 0 (by decide) (by simp)
theorem mkChan71e (w : World) (es : Array Event) : (Instr.makeChan 71 (.int .i64 0)).events Tryd.prog w es = es := by
  obtain ⟨i4, hi, _, _, hz2⟩ := info_parts info34
  exact events_makeChan Tryd.underlying71 hi .i64 0 (by decide) (by simp) es

set_option maxRecDepth 100000 in
set_option maxHeartbeats 8000000 in
/-- ████ FROM THE MAKE OF THE CHANNEL TO THE FAN-IN ████ -/
theorem atFanM {w : World} {cs : List Frame} {x y z : M4} {mB mA : ByteArray} {bst capS bB capB bA capA : Nat} (T : Array Value) (hT : T.size = 31) (t0 : T[0]? = some (.slice (some ⟨bst, 0, none⟩) 2 capS))
    (hs0 : w.rangeAt bst 0 [.string mB, .slice (some ⟨bB, 0, none⟩) 2 capB]) (hs1 : w.rangeAt bst 2 [.string mA, .slice (some ⟨bA, 0, none⟩) 1 capA])
    (hx : w.rangeAt bB 0 x.cells) (hy : w.rangeAt bB 4 y.cells) (hz : w.rangeAt bA 0 z.cells) :
    Goes Tryd.prog true AtRel (DB (fun _ => False) (Shy2 w.heap.size (w.heap.size + 2))) (AtFan (XM w cs x y z) w.heap.size) 45 (G ((base 19).at ⟨T, []⟩ [.code tail4M]) cs) w := by
  have lt_of : ∀ {b o : Nat} {c : Value} {l : List Value}, w.rangeAt b o (c :: l) → b < w.heap.size := fun {b o c l} h => World.block_lt_of_cell? w _ (h 0 c rfl)
  have qlt : ∀ {b : Nat}, b < w.heap.size → QF w b := fun h => ⟨by omega, by omega, by omega⟩
  have hbst := lt_of hs0
  have hbB : bB < w.heap.size := lt_of hx
  have hbA : bA < w.heap.size := lt_of hz
  have rg : ∀ {b o : Nat} {l : List Value}, b < w.heap.size → w.rangeAt b o l → (wF w).rangeAt b o l := fun hb h => rangeAt_block h (old_wF w hb)
  obtain ⟨v0, v1, v2', v3, v4, v5, v6, v7, v8, v9, v10, v11, v12, v13, v14, v15, v16, v17, v18, v19, v20, v21, v22, v23, v24, v25, v26, v27, v28, v29, v30, rfl⟩ := array31 T hT
  simp only [List.getElem?_toArray, List.getElem?_cons_succ, List.getElem?_cons_zero, Option.some.injEq] at t0
  subst t0
  have hF : Drawn w w := .refl w
  have hL : tail4M = tail4M := rfl
  simp only [tail4M, bodyM, Tryd.f19, Option.getD_some]
  refine goes_bind0 (n := 40) (m := 5) atRel_refl db_idle ?_
  u_c stepG_seq Drawn.rel hF
  u_reg Drawn.rel hF
  refine Goes.stop (fun w₁ h₁ => ?_)
  replace hF := hF.rel h₁
  clear h₁
  refine goes_mem (n := 39) rfl rfl (by decide) (fun w₁ h₁ => ?_)
  replace hF := hF.rel h₁
  clear h₁
  refine ⟨_, _, NoE, Yld.value (v := .chan (some w₁.heap.size)) (w' := w₁.alloc (.chan 0 #[] false 0 0 false)) (by simp [execOp, Act.eval, mkChan71]) (fun e he => by simp [execOp, Act.eval, mkChan71, mkChan71e] at he), db_new _, ?_⟩
  rw [hF.heap]
  replace hF := hF.alloc (.chan 0 #[] false 0 0 false)
  generalize hw : w₁.alloc _ = w₂ at hF ⊢
  clear hw w₁
  walk_nrm
  refine goes_mem (n := 38) rfl rfl (by decide) (fun w₁ h₁ => ?_)
  replace hF := hF.rel h₁
  clear h₁ w₂
  refine ⟨_, _, NoE, yld_alloc rfl (Tryd.zeroValue71 _) (evZero _), db_new _, ?_⟩
  have e1 : w₁.heap.size = w.heap.size + 1 := by rw [hF.heap]; simp
  rw [e1]
  replace hF := hF.alloc (.cells (Value.chan none).cells 71)
  generalize hw : w₁.alloc _ = w₂ at hF ⊢
  clear hw e1 w₁
  walk_nrm
  refine goes_mem (n := 37) rfl rfl (by decide) (fun w₁ h₁ => ?_)
  replace hF := hF.rel h₁
  clear h₁ w₂
  have hb : w₁.heap[w.heap.size + 1]? = some (.cells #[.chan none] 71 (0, 0)) := by rw [hF.heap]; exact box_w2F w
  refine ⟨_, _, _, yld_store (v := .chan (some w.heap.size)) rfl rfl rfl hb (Tryd.sizeOf71 _) (evSize _) rfl (by simp [Value.cells, Value.oneCell']), db_row (heap_lt hb) (fun ad wr had => ⟨by simp [blk, had], by simp [blk, had], fun m h => by cases h⟩) _, ?_⟩
  replace hF := hF.setRow (w.heap.size + 1) (Value.chan (some w.heap.size)).cells
  generalize hw : w₁.setRow _ _ = w₂ at hF ⊢
  clear hw hb w₁
  refine goes_bind0 (n := 10) (m := 27) atRel_refl db_idle ?_
  walk_nrm
  u_c stepG_region_end Drawn.rel hF
  u_c stepG_seq Drawn.rel hF
  u_reg Drawn.rel hF
  refine Goes.stop (fun w₁ h₁ => ?_)
  replace hF := hF.rel h₁
  clear h₁ w₂
  refine goes_mem (n := 9) rfl rfl (by decide) (fun w₁ h₁ => ?_)
  replace hF := hF.rel h₁
  clear h₁
  refine ⟨_, _, NoE, yld_alloc rfl (Tryd.zeroValue78 _) (evZero _), db_new _, ?_⟩
  have e1 : w₁.heap.size = w.heap.size + 2 := by rw [hF.heap]; simp
  rw [e1]
  replace hF : Drawn (wF w) _ := hF.alloc (.cells (Value.agg #[.int .u64 0, .int .u32 0]).cells 78)
  generalize hw : w₁.alloc _ = w₂ at hF ⊢
  clear hw e1 w₁
  refine Goes.stop (fun w₁ h₁ => ?_)
  replace hF := hF.rel h₁
  clear h₁ w₂
  have hWF := size_wF w
  have hheap := hF.heap
  refine ⟨Nat.le_refl _, (show w.heap.size ≤ w.heap.size + 2 by omega), ?_, ?_, fun b hb => ⟨by rw [hheap, hWF]; exact hb.1, hb.2.1, hb.2.2, fun _ _ h => h⟩, rfl, noO, fun b h => h.elim, ?_⟩
  · show w₁.heap[w.heap.size + 2]? = _
    rw [hheap]; exact wg_wF w
  · show w₁.heap[w.heap.size]? = _
    rw [hheap]; exact chan_wF w
  show Sp Tryd.prog lk.tWg (w.heap.size + 2) w.heap.size (QF w) 2 (v2 x y z) (PossX x y z) (FullX x y z) ResM (NextMM (w.heap.size + 2) (QF w) (wF w) cs) 3 2 noO _ w₁
  have hc : QF w (w.heap.size + 1) := ⟨by omega, by omega, by omega⟩
  have hqm : ¬ QF w w.heap.size := fun h => h.2.1 rfl
  have hqw : ¬ QF w (w.heap.size + 2) := fun h => h.2.2 rfl
  have hq0 : ∀ b, QF w b → b < (wF w).heap.size := fun b h => by rw [hWF]; exact h.1
  obtain ⟨f, hf⟩ := spM (Wg := w.heap.size + 2) (Cm := w.heap.size) (bc := w.heap.size + 1) (Q := QF w) (w0 := wF w) (cs := cs) (Poss := PossX x y z) (Full := FullX x y z) (Res := ResM) (tot := 3) (N := 2) (vals := v2 x y z)
    (sts := [⟨mB, some ⟨bB, 0, none⟩, bB, 2, capB, [x, y]⟩, ⟨mA, some ⟨bA, 0, none⟩, bA, 1, capA, [z]⟩]) (bst := bst) (capS := capS) rfl (by omega)
    (fun i st h => by
      match i, h with
      | 0, h => cases h; rfl
      | 1, h => cases h; rfl
      | i + 2, h => simp at h)
    (fun i st h => by
      match i, h with
      | 0, h =>
        cases h
        exact ⟨rfl, (show (2 : Nat) ≤ _ by omega), fun _ => rfl, fun _ => qlt hbB, fun j u hu => by
          match j, hu with
          | 0, hu => cases hu; exact rg hbB hx
          | 1, hu => cases hu; exact rg hbB hy
          | j + 2, hu => simp at hu⟩
      | 1, h =>
        cases h
        exact ⟨rfl, (show (1 : Nat) ≤ _ by omega), fun _ => rfl, fun _ => qlt hbA, fun j u hu => by
          match j, hu with
          | 0, hu => cases hu; exact rg hbA hz
          | j + 1, hu => simp at hu⟩
      | i + 2, h => simp at h)
    (fun i st h => by
      match i, h with
      | 0, h => cases h; exact rg hbst hs0
      | 1, h => cases h; exact rg hbst hs1
      | i + 2, h => simp at h)
    (qlt hbst) hc (box_wF w) (by rw [hWF]; omega) (by rw [hWF]; omega) hq0 hqm hqw (by omega)
    (fun Cw b9 w' h1 h2 h3 h4 hK => collectsAll (w0 := wF w) possX (fun lm h => by rcases fullX h with rfl | rfl | rfl <;> rfl) hc hqw h1 hq0 3 w' hK) 2 0 rfl
  have hK : SameQ (QF w) (wF w) w₁ ∧ WgLive lk.tWg (w.heap.size + 2) w₁ := by
    obtain ⟨d, rfl⟩ := hF
    exact ⟨⟨rfl, rfl, rfl, Nat.le_refl _, fun _ _ => rfl⟩, 0, 0, wg_wF w⟩
  have rl : ∀ {w' w₁ : World}, (SameQ (QF w) (wF w) w' ∧ WgLive lk.tWg (w.heap.size + 2) w') → RO lk.tWg (w.heap.size + 2) (QF w) noO w' w₁ → SameQ (QF w) (wF w) w₁ ∧ WgLive lk.tWg (w.heap.size + 2) w₁ := fun h r => ⟨h.1.rl r fun _ h => .inr h, r.live h.2⟩
  refine SpM.sp (m := f + 20) (SpM.of_goes ?_)
  walk_nrm
  u_c stepG_region_end rl hK
  u_c stepG_seq rl hK
  u_c stepG_seq rl hK
  u_reg rl hK
  u_op rl hK
  u_op rl hK
  u_op rl hK
  u_c stepG_region_end rl hK
  u_c stepG_block rl hK
  u_c stepG_loop rl hK
  exact Goes.stop fun w₃ h₃ => hf noO _ w₃ ⟨_, rfl, rfl, rfl, rfl, rfl, rfl, rfl⟩ (rl hK h₃)
end Go.Proofs.YtmmjlngbiilagaaDoor
