/-
  THE COLLECTOR, at whatever number of messages: it receives till the channel is closed, sorts, hands over.
-/
import Derived.Test.YtmmjlngbiilagaaGreatDoorT18
import Derived.Below

namespace Go.Proofs.YtmmjlngbiilagaaGreatDoor
open Go Go.Conc Go.RowKit Go.Conc.Lib Go.ConcR.Gen Go.Lib
open Go.ConcR (KK wgBlock WgAt stA smA rd wr mk DC0)
open Go.ConcN (WgLive AtD4 WD)

/-- The sort's phase is a walk of a goroutine that owns blocks. -/
theorem goesO_of_st {P : Program} {O Q : Nat → Prop} {B : Nat} {St : Goroutine → World → Prop} {Stop : (Nat → Prop) → Goroutine → World → Prop} (hS : ∀ O g w, St g w → Stop O g w) : ∀ {m : Nat} {g : Goroutine} {w : World},
    Goes P false AtRel (DSt O Q B) St m g w → GoesO P false RA Q Stop m (fun b => O b ∨ (B ≤ b ∧ b < w.heap.size)) g w
  | 0, _, _, h => fun w₁ h₁ => hS _ _ _ (h w₁ h₁)
  | m + 1, g, w, h => by
    rcases h with h | ⟨hs, h⟩
    · exact .inl fun w₁ h₁ => hS _ _ _ (h w₁ h₁)
    · refine .inr ⟨hs, fun w₁ h₁ => ?_⟩
      have hsz : w₁.heap = w.heap := atRel_heap h₁
      have := h w₁ h₁
      revert this
      cases stepG P false g w₁ <;> simp only [GStep.goes, imp_self]
      rename_i g' w' es
      rintro ⟨hd, x⟩
      refine ⟨fun b => O b ∨ (B ≤ b ∧ b < w'.heap.size), ⟨hd.tape, hd.os, hd.output, hd.size, fun b hb hn => hd.block b hb ?_ fun ho => hn (.inl ho), fun b hb => ?_, fun e he => ?_, fun N C h1 h2 h3 => hd.kd N C (fun b hb => h1 b (.inl hb)) (fun b hb => (Nat.lt_or_ge b w₁.heap.size).elim (fun hl => h1 b (.inr ⟨hb, by rw [← hsz]; exact hl⟩)) (h2 b)) h3⟩, goesO_of_st hS x⟩
      · rcases Nat.lt_or_ge b B with h | h
        · exact h
        · exact absurd (.inr ⟨h, by rw [← hsz]; exact hb⟩) hn
      · rcases hb with h | ⟨h1, h2⟩
        · exact .inl (.inl h)
        · rcases Nat.lt_or_ge b w₁.heap.size with h3 | h3
          · exact .inl (.inr ⟨h1, by rw [← hsz]; exact h3⟩)
          · exact .inr ⟨h3, h2⟩
      · have := hd.ev e he
        obtain ⟨loc, wr, sy⟩ := e
        cases loc with
        | cell ad => exact ⟨this.1, this.2.imp (fun h => .inr h) id⟩
        | obj r => exact ⟨this.1, this.2.imp (fun h => .inr h) id⟩
        | mark m => exact this
        | output => exact this
        | goroutines => exact this

def bC : Frame := baseD 30
noncomputable def bodyC : Code := Tryz.f30.body.getD .skip
noncomputable def loopC : Code := match bodyC with | .seq _ (.seq (.seq _ (.block _ (.loop c))) _) => c | _ => .skip
noncomputable def tailC : Code := match bodyC with | .seq _ (.seq _ t) => t | _ => .skip

theorem array16 (T : Array Value) (h : T.size = 16) : ∃ v0 v1 v2 v3 v4 v5 v6 v7 v8 v9 v10 v11 v12 v13 v14 v15 : Value, T = #[v0, v1, v2, v3, v4, v5, v6, v7, v8, v9, v10, v11, v12, v13, v14, v15] := by
  obtain ⟨l⟩ := T
  simp only [List.size_toArray] at h
  rcases l with _ | ⟨v0, _ | ⟨v1, _ | ⟨v2, _ | ⟨v3, _ | ⟨v4, _ | ⟨v5, _ | ⟨v6, _ | ⟨v7, _ | ⟨v8, _ | ⟨v9, _ | ⟨v10, _ | ⟨v11, _ | ⟨v12, _ | ⟨v13, _ | ⟨v14, _ | ⟨v15, _ | ⟨x, l⟩⟩⟩⟩⟩⟩⟩⟩⟩⟩⟩⟩⟩⟩⟩⟩⟩ <;> simp at h
  exact ⟨v0, v1, v2, v3, v4, v5, v6, v7, v8, v9, v10, v11, v12, v13, v14, v15, rfl⟩

theorem info34 : (Tryz.prog.info? 50).map (fun i => (i.zero, i.size, i.bytes)) = some (some (.agg #[.int .i64 0, .string { data := #[] }, .int .i64 0, .string { data := #[] }]), 4, 48) := by kernel_rfl
theorem fill4 (x : M4) : Instr.fill (fun i => some (i * 4, 4)) ((Array.range (1 * 4)).map ((Value.agg #[.int .i64 0, .string { data := #[] }, .int .i64 0, .string { data := #[] }]).cells[· % (Value.agg #[.int .i64 0, .string { data := #[] }, .int .i64 0, .string { data := #[] }]).cells.size]!)) [(0, x.val)] = some x.cells.toArray := by
  kernel_rfl

/-- What is received, in cells. -/
def flat (lm : List M4) : List Value := lm.flatMap M4.cells
theorem flat_length (lm : List M4) : (flat lm).length = lm.length * 4 := by
  induction lm with
  | nil => rfl
  | cons x lm ih => simp only [flat, List.flatMap_cons, List.length_append, List.length_cons] at ih ⊢; rw [ih]; simp [M4.cells]; omega
theorem flat_get {lm : List M4} : ∀ {i : Nat} {x : M4}, lm[i]? = some x → ∀ (k : Nat) (v : Value), x.cells[k]? = some v → (flat lm)[i * 4 + k]? = some v := by
  induction lm with
  | nil => intro i x h; simp at h
  | cons y lm ih =>
    intro i x h k v hv
    have hk : k < 4 := (List.getElem?_eq_some_iff.1 hv).1
    cases i with
    | zero =>
      simp at h
      subst h
      simp only [flat, List.flatMap_cons]
      rw [List.getElem?_append_left (by simp [M4.cells]; omega)]
      simpa using hv
    | succ i =>
      have h' : lm[i]? = some x := by simpa using h
      have := ih h' k v hv
      simp only [flat, List.flatMap_cons] at this ⊢
      rw [List.getElem?_append_right (by simp [M4.cells]; omega)]
      have e : (i + 1) * 4 + k - y.cells.length = i * 4 + k := by simp [M4.cells]; omega
      rw [e]
      exact this

section
variable {Wg Cm Cw bc b9 : Nat} {Q : Nat → Prop} {O : Nat → Prop} {w w₁ : World}
/-- A cell of a message's. -/
def PlM (x : Value) : Prop := (∃ k i, x = .int k i) ∨ ∃ s, x = .string s
theorem PlM.pf {x : Value} (h : PlM x) (K : Cfg) : PFv K x := by
  rcases h with ⟨k, i, rfl⟩ | ⟨s, rfl⟩
  · exact pf_int _ _
  · exact pf_string _
theorem pl_cells (x : M4) : ∀ u ∈ x.cells, PlM u := fun u hu => by
  simp only [M4.cells, List.mem_cons, List.not_mem_nil, or_false] at hu
  rcases hu with rfl | rfl | rfl | rfl
  · exact .inl ⟨_, _, rfl⟩
  · exact .inr ⟨_, rfl⟩
  · exact .inl ⟨_, _, rfl⟩
  · exact .inr ⟨_, rfl⟩
theorem pl_flat (l : List M4) : ∀ u ∈ flat l, PlM u := fun u hu => by
  simp only [flat, List.mem_flatMap] at hu
  obtain ⟨x, _, hx⟩ := hu
  exact pl_cells x u hx
/-- All cells of a slice's block are a message's. -/
def PlainRow (v : Value) (w : World) : Prop := ∀ g, v.ownBlock = some g → ∃ cur, w.heap[g]? = some (.cells cur 50 (0, 0)) ∧ ∀ x ∈ cur, PlM x
/-- What the collector knows of the world. -/
structure KC (Wg Cm Cw bc b9 : Nat) (v : Value) (lm : List M4) (w : World) : Prop where
  c : w.heap[bc]? = some (.cells #[.chan (some Cm)] 82 (0, 0))
  w9 : w.heap[b9]? = some (.cells #[.chan (some Cw)] 93 (0, 0))
  row : w.ownsRow 0 50 4 v lm.length (flat lm)
  pl : PlainRow v w
  live : WgLive lk.tWg Wg w
theorem ownsRow_block {w w₁ : World} {e : TypeId} {size : Nat} {v : Value} {n : Nat} {xs : List Value} (h : w.ownsRow 0 e size v n xs) (hb : ∀ g, v.ownBlock = some g → w₁.heap[g]? = w.heap[g]?) : w₁.ownsRow 0 e size v n xs := by
  refine ⟨h.1, h.2.imp id fun ⟨g, cap, cur, hv, h1, h2, h3⟩ => ⟨g, cap, cur, hv, h1, ?_, h3⟩⟩
  rw [hb g (by rw [hv]; rfl)]
  exact h2
theorem KC.rely {v : Value} {lm : List M4} (hc : Q bc) (ho : ∀ g, v.ownBlock = some g → O g) (h : KC Wg Cm Cw bc b9 v lm w) (r : RO lk.tWg Wg (fun b => Q b ∨ b = b9) O w w₁) : KC Wg Cm Cw bc b9 v lm w₁ :=
  ⟨(r.block bc (.inr (.inl hc))).trans h.c, (r.block b9 (.inr (.inr rfl))).trans h.w9, ownsRow_block h.row fun g hg => r.block g (.inl (ho g hg)), fun g hg => by rw [r.block g (.inl (ho g hg))]; exact h.pl g hg, r.live h.live⟩
/-- .. behind a step of its own on a block apart. -/
theorem KC.own {v : Value} {lm : List M4} {b : Nat} (h : KC Wg Cm Cw bc b9 v lm w) (hb : ∀ k, k < w.heap.size → k ≠ b → w₁.heap[k]? = w.heap[k]?) (h1 : b ≠ bc) (h2 : b ≠ b9) (h3 : v.ownBlock ≠ some b) (h4 : b ≠ Wg) : KC Wg Cm Cw bc b9 v lm w₁ := by
  refine ⟨(hb _ (heap_lt h.c) (Ne.symm h1)).trans h.c, (hb _ (heap_lt h.w9) (Ne.symm h2)).trans h.w9, ownsRow_block h.row fun g hg => hb g (h.row.lt g hg).2 (fun e => h3 (e ▸ hg)), fun g hg => by rw [hb g (h.row.lt g hg).2 (fun e => h3 (e ▸ hg))]; exact h.pl g hg, ?_⟩
  obtain ⟨st, sm, hw⟩ := h.live
  have hw' : w.heap[Wg]? = some (wgBlock lk.tWg st sm) := hw
  exact ⟨st, sm, (hb _ (heap_lt hw') (Ne.symm h4)).trans hw'⟩
theorem KC.lt {v : Value} {lm : List M4} (h : KC Wg Cm Cw bc b9 v lm w) : bc < w.heap.size ∧ b9 < w.heap.size ∧ Wg < w.heap.size ∧ ∀ g, v.ownBlock = some g → g < w.heap.size := by
  obtain ⟨st, sm, hw⟩ := h.live
  have hw' : w.heap[Wg]? = some (wgBlock lk.tWg st sm) := hw
  exact ⟨heap_lt h.c, heap_lt h.w9, heap_lt hw', fun g hg => (h.row.lt g hg).2⟩

/-- At its loop's head. -/
def AnchC (bc b9 Cm : Nat) (v : Value) (g : Goroutine) : Prop :=
  ∃ T : Array Value, g = G (bC.at ⟨T, []⟩ [.code loopC, .inLoop loopC, .inBlock 0, .code tailC]) [bot] ∧ T.size = 16 ∧ T[0]? = some (.pointer (some ⟨bc, 0, none⟩)) ∧ T[1]? = some (.pointer (some ⟨b9, 0, none⟩)) ∧ T[2]? = some v ∧ T[4]? = some (.chan (some Cm))

open Go.Shelf Go.Sort in
/-- What is handed over: the messages, sorted. -/
def ResN (Bq : Nat) (l : List Value) (v : Value) (w : World) : Prop :=
  ∃ lm : List M4, l = lm.map M4.val ∧ ((lm = [] ∧ v = .slice none 0 0) ∨ ∃ (gS cap len : Nat) (d : Array Msg), v = .slice (some ⟨gS, 0, none⟩) lm.length cap ∧ Bq ≤ gS ∧ lm.length ≤ cap ∧ len = cap * 4 ∧ PermIn 0 lm.length lm.toArray d ∧ SortedIn (ltOf cmpMsg) 0 lm.length d ∧ RowOf gS len d w)
theorem resN_ok {Bq : Nat} : ∀ l v w d, ResN Bq l v w → ResN Bq l v (w.at d) := fun l v w d h => h
theorem resN_put {Bq : Nat} : ∀ l v w c cap buf cl s r tm s' r', w.heap[c]? = some (.chan cap buf cl s r tm) → ResN Bq l v w → ResN Bq l v (w.setChan c cap buf cl s' r' tm) := by
  rintro l v w c cap buf cl s r tm s' r' hc ⟨lm, h1, h⟩
  refine ⟨lm, h1, h.imp id ?_⟩
  rintro ⟨gS, cp, len, d, h2, hbq, h3, h4, h5, h6, h7⟩
  refine ⟨gS, cp, len, d, h2, hbq, h3, h4, h5, h6, h7.heap ?_⟩
  obtain ⟨cur, h8, _⟩ := h7
  have hne : c ≠ gS := fun e => by rw [e, h8] at hc; cases hc
  simp only [World.setChan]
  rw [Array.getElem?_setIfInBounds_ne hne]
noncomputable def opsC2 : Array Oper := match loopC with | .seq (.region _ ops _) _ => ops | _ => #[]
noncomputable def opsT1 : Array Oper := match tailC with | .seq (.region _ ops _) _ => ops | _ => #[]
noncomputable def restT1 : Code := match tailC with | .seq _ t => t | _ => .skip
noncomputable def restC2 : Code := match loopC with | .seq _ t => t | _ => .skip

/-- Its way out: its body's end, and the goroutine's. -/
theorem quitsC (T : Array Value) : QuitsD Tryz.prog 3 0 (G (bC.at ⟨T, []⟩ []) [bot]) := by
  refine QuitsD.ctl (g' := G { bC.at ⟨T, []⟩ [] with mode := .returning } [bot]) rfl (fun w => stepG_end) ?_
  refine QuitsD.ctl (g' := G bot []) rfl (fun w => ?_) ?_
  · simp [G, stepG, unwind, doReturn, results, Frame.at, bC, baseD, bot, Tryz.func30, Tryz.f30, seen, GStep.after, goexitEntry]
  refine QuitsD.ctl (g' := { G bot [] with status := .finished }) rfl (fun w => ?_) ⟨rfl, rfl⟩
  simp [G, stepG, unwind, bot, goexitEntry, Frame.catches]
  rfl

/-- Some number. -/
def GoesE (P : Program) (D : World → World → Array Event → Prop) (St : Goroutine → World → Prop) (g : Goroutine) (w : World) : Prop := ∃ m, Goes P false AtRel D St m g w
open Go.Shelf Go.Sort in
theorem flat_flatK (lm : List M4) (j : Nat) (h : j < lm.length * 4) : (flat lm)[j]? = some (flatK Msg.cells 4 lm.toArray)[j]! := by
  rw [get_flatK _ _ _ _ (by simpa using h)]
  have hd : j / 4 < lm.length := by omega
  have h4 : j % 4 < 4 := Nat.mod_lt _ (by decide)
  have e : j = j / 4 * 4 + j % 4 := by omega
  obtain ⟨x, hx⟩ : ∃ x, lm[j / 4]? = some x := ⟨_, List.getElem?_eq_getElem hd⟩
  have hx' : lm.toArray[j / 4]! = x := by
    rw [getElem!_def, List.getElem?_toArray, hx]
  rw [hx']
  conv => lhs; rw [e]
  refine flat_get hx _ _ ?_
  generalize j % 4 = r at h4
  obtain rfl | rfl | rfl | rfl : r = 0 ∨ r = 1 ∨ r = 2 ∨ r = 3 := by omega
  all_goals rfl
set_option maxRecDepth 100000 in
set_option maxHeartbeats 4000000 in
/-- Behind the sort: it stands at its send. -/
theorem srtTail {O Q' : Nat → Prop} {B : Nat} {Cw b9 : Nat} {Res : List Value → Value → World → Prop} {l : List Value} {v : Value} (hres : ∀ l v w d, Res l v w → Res l v (w.at d)) (hq9 : Q' b9) (w : World) (T : Array Value) (hT : T.size = 16) (t1 : T[1]? = some (.pointer (some ⟨b9, 0, none⟩))) (t2 : T[2]? = some v)
    (h9 : w.heap[b9]? = some (.cells #[.chan (some Cw)] 93 (0, 0))) (hR : Res l v w) :
    Goes Tryz.prog false AtRel (DSt O Q' B) (AtSw Tryz.prog Cw Res l noO) 17 (G (bC.at ⟨T, []⟩ [.inRegion opsT1 [], .code restT1]) [bot]) w := by
  have Tm := termsSt O Q' B
  obtain ⟨v0, v1, v2, v3, v4, v5, v6, v7, v8, v9, v10, v11, v12, v13, v14, v15, rfl⟩ := array16 T hT
  simp only [List.getElem?_toArray, List.getElem?_cons_succ, List.getElem?_cons_zero, Option.some.injEq] at t1 t2
  subst t1 t2
  simp only [opsT1, restT1, tailC, bodyC, Tryz.f30, Option.getD_some]
  have hF : w.heap[b9]? = some (.cells #[.chan (some Cw)] 93 (0, 0)) ∧ Res l v2 w := ⟨h9, hR⟩
  clear h9 hR
  have rl : ∀ {w w₁ : World}, (w.heap[b9]? = some (.cells #[.chan (some Cw)] 93 (0, 0)) ∧ Res l v2 w) → AtRel w w₁ → (w₁.heap[b9]? = some (.cells #[.chan (some Cw)] 93 (0, 0)) ∧ Res l v2 w₁) := fun h ⟨d, e⟩ => by
    subst e
    exact ⟨h.1, hres _ _ _ d h.2⟩
  refine goes_bind0 (n := 7) (m := 10) atRel_refl Tm.idle ?_
  u_c stepG_region_end rl hF
  u_reg rl hF
  refine Goes.stop (fun w₁ h₁ => ?_)
  replace hF := rl hF h₁
  clear h₁
  refine goes_mem (n := 6) rfl rfl (by decide) (fun w₁ h₁ => ?_)
  replace hF := rl hF h₁
  clear h₁
  refine ⟨_, _, _, yld_load1 (ad := ⟨b9, 0, none⟩) (v := .chan (some Cw)) rfl rfl (by rw [cell_of_row _ _ _ _ _ _ hF.1]; rfl) (Tryz.isAgg93 _) (evAgg _), dst_read (.inr (.inr hq9)), ?_⟩
  walk_nrm
  refine goes_bind0 (n := 0) (m := 6) atRel_refl Tm.idle ?_
  u_op rl hF
  refine Goes.stop (fun w₁ h₁ => ?_)
  replace hF := rl hF h₁
  clear h₁
  refine Goes.stop (fun w₁ h₁ => ?_)
  replace hF := rl hF h₁
  clear h₁
  refine ⟨rfl, v2, .tuple #[], ?_, hF.2, 4, ?_⟩
  · rw [stepG_comm (cases := #[scase Cw v2 (.tuple #[])]) (blocking := true) (shape := .send) (w' := w₁) rfl rfl (by decide) (by simp [execOp, scase, Act.eval])]
    simp [listed, execOp, seen, core_G]
  · rw [core_G, served_G]
    walk_nrm
    refine QuitsD.ctl rfl (fun _ => stepG_region_end) ?_
    exact quitsC _
set_option maxRecDepth 100000 in
set_option maxHeartbeats 4000000 in
/-- To the sort's call. -/
theorem srtHead {D : World → World → Array Event → Prop} {St : Goroutine → World → Prop} (hD : Terms AtRel D) (w : World) (T : Array Value) (v z : Value) (hT : T.size = 16) (t2 : T[2]? = some v) (t5 : T[5]? = some (.tuple #[z, .bool false]))
    (h : ∀ T' : Array Value, T'.size = 16 → T'[1]? = T[1]? → T'[2]? = T[2]? → ∃ N, ∀ w₁, AtRel w w₁ → Goes Tryz.prog false AtRel D St N (G (Frame.enter Tryz.prog 31 #[v, .func (.func 32) #[] #[]] .normal) [bC.at ⟨T', []⟩ [.inRegion opsT1 [1], .code restT1], bot]) w₁) :
    GoesE Tryz.prog D St (G (bC.at ⟨T, []⟩ (.inRegion opsC2 [1] :: [.code restC2, .inLoop loopC, .inBlock 0, .code tailC])) [bot]) w := by
  have hF : Drawn w w := .refl w
  obtain ⟨v0, v1, v2, v3, v4, v5, v6, v7, v8, v9, v10, v11, v12, v13, v14, v15, rfl⟩ := array16 T hT
  simp only [List.getElem?_toArray, List.getElem?_cons_succ, List.getElem?_cons_zero, Option.some.injEq] at t2 t5
  subst t2 t5
  obtain ⟨N, hN⟩ := h #[v0, v1, v2, v3, v4, .tuple #[z, .bool false], .bool false, v7, v8, v9, v10, v11, v2, v13, v14, v15] rfl rfl rfl
  refine ⟨(N + 1) + 20, ?_⟩
  refine goes_bind0 (n := N + 1) (m := 20) atRel_refl hD.idle ?_
  simp only [opsC2, opsT1, restT1, restC2, loopC, tailC, bodyC, Tryz.f30, Option.getD_some] at hN ⊢
  u_op Drawn.rel hF
  u_c stepG_region_end Drawn.rel hF
  u_c stepG_seq Drawn.rel hF
  u_cond false Drawn.rel hF
  u_exit Drawn.rel hF
  u_c stepG_seq Drawn.rel hF
  u_reg Drawn.rel hF
  u_op Drawn.rel hF
  refine Goes.stop (fun w₁ h₁ => ?_)
  replace hF := hF.rel h₁
  clear h₁
  refine Goes.step rfl fun w₁ h₁ => ?_
  replace hF := hF.rel h₁
  clear h₁
  refine goes_enter rfl rfl (by decide) rfl Tryz.func31 (by kernel_rfl) rfl ⟨hD.idle _, ?_⟩
  walk_nrm
  exact hN w₁ hF
open Go.Shelf Go.Sort in
/-- THE CHANNEL IS CLOSED: it sorts, and stands at its send. -/
theorem srtN {Bq : Nat} {Full : List Value → Prop} {lm : List M4} {v : Value} (hfull : Full (lm.map M4.val) → lm.length ≤ 100000) (hb9 : ∀ g, v.ownBlock = some g → g ≠ b9) (hbq : ∀ g, v.ownBlock = some g → Bq ≤ g) (T : Array Value) (hT : T.size = 16)
    (t1 : T[1]? = some (.pointer (some ⟨b9, 0, none⟩))) (t2 : T[2]? = some v) (z : Value) (t5 : T[5]? = some (.tuple #[z, .bool false])) (w : World) (hK : KC Wg Cm Cw bc b9 v lm w) :
    Srt Tryz.prog (fun b => Q b ∨ b = b9) Cw Full (ResN Bq) (lm.map M4.val) (fun g => v.ownBlock = some g) (G (bC.at ⟨T, []⟩ (.inRegion opsC2 [1] :: [.code restC2, .inLoop loopC, .inBlock 0, .code tailC])) [bot]) w := by
  intro hf
  have hl := hfull hf
  have h9lt := heap_lt hK.w9
  have key : ∀ (O : Nat → Prop), ¬ O b9 → (∀ T' : Array Value, T'.size = 16 → T'[1]? = T[1]? → T'[2]? = T[2]? → ∃ N, ∀ w₁, AtRel w w₁ → Goes Tryz.prog false AtRel (DSt O (fun b => Q b ∨ b = b9) w.heap.size) (fun g w' => g = G ((bC.at ⟨T', []⟩ [.inRegion opsT1 [1], .code restT1]).finish (.tuple #[])) [bot] ∧ (ResN Bq) (lm.map M4.val) v w') N
      (G (Frame.enter Tryz.prog 31 #[v, .func (.func 32) #[] #[]] .normal) [bC.at ⟨T', []⟩ [.inRegion opsT1 [1], .code restT1], bot]) w₁) →
      GoesE Tryz.prog (DSt O (fun b => Q b ∨ b = b9) w.heap.size) (AtSw Tryz.prog Cw (ResN Bq) (lm.map M4.val) noO) (G (bC.at ⟨T, []⟩ (.inRegion opsC2 [1] :: [.code restC2, .inLoop loopC, .inBlock 0, .code tailC])) [bot]) w := fun O hO h => by
    refine srtHead (termsSt O _ _) w T v z hT t2 t5 fun T' h1 h2 h3 => ?_
    obtain ⟨N, hN⟩ := h T' h1 h2 h3
    refine ⟨17 + N, fun w₁ hw₁ => goes_inv (I := fun u => u.heap[b9]? = some (.cells #[.chan (some Cw)] 93 (0, 0)) ∧ b9 < w.heap.size) atRel_refl (fun u u₁ hI hr => by rw [atRel_heap hr]; exact hI) (fun u u' es hI hd => ⟨(hd.block b9 (heap_lt hI.1) hI.2 hO).trans hI.1, hI.2⟩)
      (by rw [atRel_heap hw₁]; exact ⟨hK.w9, h9lt⟩) ?_⟩
    refine goes_stopMono (fun g w' ⟨hg, hR⟩ hI => ?_) (hN w₁ hw₁)
    subst hg
    rw [Frame.finish_at]
    exact srtTail resN_ok (.inr rfl) w' _ (by simpa [opsT1] using h1) (by simp [h2, t1]) (by simp [h3, t2]) hI.1 hR
  rcases hK.row.2 with ⟨rfl, h0⟩ | ⟨gS, cap, cur, rfl, _, hg, hnc, _, hcs, htake⟩
  · obtain rfl : lm = [] := by
      have := List.length_eq_zero_iff.1 (show lm.length = 0 from h0)
      exact this
    obtain ⟨m, hm⟩ := key (fun _ => False) id fun T' h1 h2 h3 => sort_goes0 w ⟨0, fun w' hw' w₂ h₂ => ⟨rfl, [], rfl, .inl ⟨rfl, rfl⟩⟩⟩
    have hgo := goesO_of_st (St := AtSw Tryz.prog Cw (ResN Bq) (([] : List M4).map M4.val) noO) (Stop := AtSw Tryz.prog Cw (ResN Bq) (([] : List M4).map M4.val)) (fun _ _ _ h => h) hm
    have hO : (fun b => False ∨ (w.heap.size ≤ b ∧ b < w.heap.size)) = fun g => (Value.slice none 0 0).ownBlock = some g := by
      funext b
      apply propext
      constructor
      · rintro (h | h)
        · exact h.elim
        · omega
      · intro h; cases h
    rw [hO] at hgo
    exact ⟨m, hgo⟩
  · obtain ⟨cur', hg', hpl⟩ := hK.pl gS rfl
    obtain rfl : cur' = cur := by rw [hg] at hg'; cases hg'; rfl
    have hRow : RowOf gS (cap * 4) lm.toArray w := ⟨cur', hg, hcs, fun x hx => (hpl x hx).pf, fun j hj => by
      rw [← flat_flatK lm j (by simpa using hj), ← htake, List.getElem?_take, if_pos (by simpa using hj)]
      simp⟩
    obtain ⟨m, hm⟩ := key (fun b => b = gS) (fun e => hb9 gS rfl e.symm) fun T' h1 h2 h3 => by
      have := sort_goes (Q := fun b => Q b ∨ b = b9) (mp := false) (c := bC.at ⟨T', []⟩ [.inRegion opsT1 [1], .code restT1]) (cs := [bot]) (cap := cap) (Stop := fun g w' => g = G ((bC.at ⟨T', []⟩ [.inRegion opsT1 [1], .code restT1]).finish (.tuple #[])) [bot] ∧ (ResN Bq) (lm.map M4.val) (.slice (some ⟨gS, 0, none⟩) lm.length cap) w') lm.toArray w hRow (by simp; omega)
        ⟨0, fun d' w' hp hs hr _ w₂ h₂ => ⟨rfl, lm, rfl, .inr ⟨gS, cap, cap * 4, d', rfl, hbq gS rfl, hnc, rfl, by simpa using hp, by simpa using hs, hr.heap (by rw [atRel_heap h₂])⟩⟩⟩
      simpa using this
    have hgo := goesO_of_st (St := AtSw Tryz.prog Cw (ResN Bq) (lm.map M4.val) noO) (Stop := AtSw Tryz.prog Cw (ResN Bq) (lm.map M4.val)) (fun _ _ _ h => h) hm
    have hO : (fun b => b = gS ∨ (w.heap.size ≤ b ∧ b < w.heap.size)) = fun g => (Value.slice (some ⟨gS, 0, none⟩) lm.length cap).ownBlock = some g := by
      funext b
      apply propext
      constructor
      · rintro (h | h)
        · subst h; rfl
        · omega
      · intro h; exact .inl (by simpa [Value.ownBlock, eq_comm] using h)
    rw [hO] at hgo
    exact ⟨m, hgo⟩
theorem dox_append' {Q' : Nat → Prop} {v v' : Value} {src : Nat} {w w' : World} (hkd : ∀ N B, Kd N B w → Kd N B w') (hv : ∀ g, v.ownBlock = some g → O g) (hs : O src ∨ Q' src) (hgr : w.grownBy w' v.ownBlock)
    (hv' : ∀ g, v'.ownBlock = some g → v.ownBlock = some g ∨ (w.heap.size ≤ g ∧ g < w'.heap.size)) : ∀ es : Array Event, (∀ e ∈ es, ApE v src e) → DOx O (fun b => v'.ownBlock = some b) Q' w w' es := fun es h =>
  ⟨hgr.tape, hgr.os, hgr.output, hgr.size, fun b hb hn => hgr.block b hb (fun e => hn (hv b e.symm)), fun b e => (hv' b e).elim (fun x => .inl (hv b x)) .inr, fun e he => by
    rcases h e he with ⟨ad, wr, rfl, ⟨rfl, rfl⟩ | h⟩ | ⟨m, rfl, hm⟩
    · exact ⟨rfl, hs.elim (fun x => .inl (.inl x)) fun x => .inr ⟨x, rfl⟩⟩
    · exact ⟨rfl, .inl (.inl (hv _ h.symm))⟩
    · exact hm, fun N B _ _ h => hkd N B h⟩

theorem pl_zero {z : Array Value} (hz : ∀ u ∈ z, PlM u) (h0 : 0 < z.size) (n : Nat) : ∀ u ∈ Builtin.zeroCells z n, PlM u := fun u hu => by
  unfold Builtin.zeroCells at hu
  simp only [Array.mem_map, Array.mem_range] at hu
  obtain ⟨i, _, rfl⟩ := hu
  have hlt : i % z.size < z.size := Nat.mod_lt _ h0
  rw [getElem!_pos z _ hlt]
  exact hz _ (Array.getElem_mem _)
/-- The block that an append hands back: the slice's own, or a new one; its cells. -/
theorem run_append_blk {P : Program} (w : World) (base : Nat) (t ty : TypeId) (i : TypeInfo) (z : Value) (size bytes : Nat) (ht : P.underlying t = some (.slice 50)) (hi : P.info? 50 = some i) (hz : i.zero = some z)
    (hsize : i.size = size) (hby : i.bytes = bytes) (v : Value) (n : Nat) (xs : List Value) (hown : w.ownsRow base 50 size v n xs) (hxs : ∀ u ∈ xs, PlM u) (hzp : ∀ u ∈ z.cells, PlM u) (hz0 : 0 < z.cells.size) (hpl : PlainRow v w)
    (a : Addr) (m c : Nat) (news : List Value) (hnp : ∀ u ∈ news, PlM u) (hm : 0 < m) (hl : news.length = m * size) (hnews : ∀ j u, news[j]? = some u → w.cell? (a.add j) = some u) (h1 : ∀ u ∈ news, u.oneCell' = true)
    (h63 : n + m ≤ maxLen) (hbytes : (n + m) * bytes ≤ 140737488355328) {v' : Value} {w' : World} (hr : (Builtin.append_ #[t, t] ty #[v, .slice (some a) m c]).run P w = .ok v' w') :
    (∀ g, v'.ownBlock = some g → v.ownBlock = some g ∨ (w.heap.size ≤ g ∧ g < w'.heap.size)) ∧ PlainRow v' w' ∧ ∀ N B, Kd N B w → Kd N B w' := by
  subst hsize
  subst hby
  have hsmall : n + m ≤ 9223372036854775807 := by simp only [maxLen] at h63; omega
  have hmem : ∀ {olds : List Value}, (∀ u ∈ olds, PlM u) → ∀ k, ∀ u ∈ olds.toArray ++ news.toArray ++ Builtin.zeroCells z.cells k, PlM u := fun {olds} ho k u hu => by
    rcases Array.mem_append.1 hu with hu | hu
    · rcases Array.mem_append.1 hu with hu | hu
      · exact ho u (by simpa using hu)
      · exact hnp u (by simpa using hu)
    · exact pl_zero hzp hz0 k u hu
  rcases hown.2 with ⟨rfl, rfl⟩ | ⟨g0, cap, cur, rfl, _, hg0, hnc, hcm, hcs, htake⟩
  · have h := run_append_nil (P := P) w t ty _ i z ht hi hz a m c news hl hnews hm (by omega) (by have hb := hbytes; simp only [Nat.zero_add] at hb; omega)
    rw [h] at hr
    cases hr
    refine ⟨fun g hg => ?_, fun g hg => ?_, fun N B hB => Kd.alloc (w := w.drew) hB trivial⟩
    · simp only [Value.ownBlock, Option.some.injEq] at hg
      subst hg
      exact .inr ⟨Nat.le_refl _, by simp⟩
    · simp only [Value.ownBlock, Option.some.injEq] at hg
      subst hg
      refine ⟨_, heap_alloc_new w.drew _, fun u hu => hmem (olds := []) (by simp) _ u (by simpa using hu)⟩
  · by_cases hroom : n + m ≤ cap
    · have hfit : n * i.size + news.length ≤ cur.size := by rw [hl, hcs, ← Nat.add_mul]; exact Nat.mul_le_mul_right _ hroom
      have h := run_append_room (P := P) w t ty _ i ht hi g0 n cap cur hg0 a m c news hl hnews h1 hroom hfit
      rw [h] at hr
      cases hr
      refine ⟨fun g hg => .inl hg, fun g hg => ?_, fun N B hB => hB.setRow _ _⟩
      obtain ⟨cur', hc', hp'⟩ := hpl g0 rfl
      obtain rfl : cur' = cur := by rw [hg0] at hc'; cases hc'; rfl
      simp only [Value.ownBlock, Option.some.injEq] at hg
      subst hg
      refine ⟨_, setRow_heap _ _ _ _ _ _ hg0, fun u hu => ?_⟩
      simp only [List.mem_toArray, List.mem_append] at hu
      rcases hu with (hu | hu) | hu
      · exact hp' u (by simpa using List.mem_of_mem_take hu)
      · exact hnp u hu
      · exact hp' u (by simpa using List.mem_of_mem_drop hu)
    · have holds : ∀ j u, xs[j]? = some u → w.cell? ((⟨g0, 0, none⟩ : Addr).add j) = some u := hown.cells (g := g0) rfl
      have h := run_append_grow (P := P) w t ty _ i z ht hi hz ⟨g0, 0, none⟩ n cap xs hown.1 holds a m c news hl hnews (by omega) (by omega) (growslice_fits (by omega) hbytes)
      rw [h] at hr
      cases hr
      refine ⟨fun g hg => ?_, fun g hg => ?_, fun N B hB => Kd.alloc (w := w.drew) hB trivial⟩
      · simp only [Value.ownBlock, Option.some.injEq] at hg
        subst hg
        exact .inr ⟨Nat.le_refl _, by simp⟩
      · simp only [Value.ownBlock, Option.some.injEq] at hg
        subst hg
        exact ⟨_, heap_alloc_new w.drew _, fun u hu => hmem hxs _ u (by simpa using hu)⟩

/-- AN APPEND OF ONE MESSAGE to the collector's slice. -/
theorem yld_append1 {o : Oper} {a : Act} {w : World} {v : Value} {lm : List M4} {x : M4} {M : Nat} (ho : o.op = .call { callee := .builtin .append, args := #[.tmp 8, .tmp 10], argTypes := #[28, 28] }) (hs : a.eval (.tmp 8) = v) (hx : a.eval (.tmp 10) = .slice (some ⟨M, 0, none⟩) 1 1)
    (hrow : w.ownsRow 0 50 4 v lm.length (flat lm)) (hM : w.heap[M]? = some (.cells x.cells.toArray 50 (0, 0))) (hp : PlainRow v w) (hl : lm.length < 100000) :
    ∃ v' w', Yld Tryz.prog o a w (ApE v M) (a.put o.dst v') w' ∧ w'.ownsRow 0 50 4 v' (lm ++ [x]).length (flat (lm ++ [x])) ∧ w.grownBy w' v.ownBlock ∧ (∀ g, v'.ownBlock = some g → v.ownBlock = some g ∨ (w.heap.size ≤ g ∧ g < w'.heap.size)) ∧ PlainRow v' w' ∧ ∀ N B, Kd N B w → Kd N B w' := by
  obtain ⟨i4, hi, hz0, hz1, hz2⟩ := info_parts info34
  have hcell : ∀ j u, x.cells[j]? = some u → w.cell? ((⟨M, 0, none⟩ : Addr).add j) = some u := fun j u hu => by
    rw [add0, Nat.zero_add, cell_of_row _ _ _ _ _ _ hM]
    simpa using hu
  have h1 : ∀ u ∈ x.cells, u.oneCell' = true := by simp [M4.cells, Value.oneCell']
  have h63 : lm.length + 1 ≤ maxLen := by simp only [maxLen]; omega
  have hb : (lm.length + 1) * 48 ≤ 140737488355328 := by omega
  obtain ⟨v', w', hr, h2, h3, _⟩ := run_append_own (P := Tryz.prog) w 0 28 o.type 50 i4 _ 4 48 Tryz.underlying28 hi hz0 hz1 hz2 rfl (by decide) v lm.length (flat lm) hrow ⟨M, 0, none⟩ 1 1 x.cells rfl hcell h1 h63 hb (Nat.zero_le _)
  refine ⟨v', w', ⟨fun K hK => uponK_append (.tmp 8) (.tmp 10) _ ho hs hx hr hK, fun ev hev => ?_⟩, ?_, h3, run_append_blk w 0 _ o.type i4 _ 4 48 Tryz.underlying28 hi hz0 hz1 hz2 v lm.length (flat lm) hrow (pl_flat lm) (fun u hu => by
    simp only [Value.cells, List.mem_toArray, List.mem_cons, List.not_mem_nil, or_false] at hu
    rcases hu with rfl | rfl | rfl | rfl <;> first | exact .inl ⟨_, _, rfl⟩ | exact .inr ⟨_, rfl⟩) (by simp [Value.cells]) hp ⟨M, 0, none⟩ 1 1 x.cells (pl_cells x) (by decide) rfl hcell h1 h63 hb hr⟩
  · rw [events_append_op (.tmp 8) (.tmp 10) _ ho hs hx] at hev
    exact events_append_plain w 0 _ o.type _ i4 _ 4 48 Tryz.underlying28 hi hz0 hz1 hz2 rfl (by decide) v lm.length (flat lm) hrow ⟨M, 0, none⟩ 1 1 x.cells rfl hcell h1 h63 hb (fun y hy => plStore (h1 y hy)) ev hev
  · have e : flat (lm ++ [x]) = flat lm ++ x.cells := by simp [flat]
    rw [e, List.length_append]
    exact h2
theorem ex_append {P : Program} {main : Bool} {R : (Nat → Prop) → World → World → Prop} {Q' : Nat → Prop} {Stop : (Nat → Prop) → Goroutine → World → Prop} {n : Nat} {O : Nat → Prop} {o : Oper} {a : Act} {w₁ : World} {E : Event → Prop} {X : Value → World → Prop} {Gn : Act → Goroutine}
    (key : ∃ v' w', Yld P o a w₁ E (a.put o.dst v') w' ∧ X v' w') (h : ∀ v' w', X v' w' → ∃ O', (∀ es : Array Event, (∀ e ∈ es, E e) → DOx O O' Q' w₁ w' es) ∧ GoesO P main R Q' Stop n O' (Gn (a.put o.dst v')) w') :
    ∃ a' w' E O', Yld P o a w₁ E a' w' ∧ (∀ es, (∀ e ∈ es, E e) → DOx O O' Q' w₁ w' es) ∧ GoesO P main R Q' Stop n O' (Gn a') w' := by
  obtain ⟨v', w', hy, hx⟩ := key
  obtain ⟨O', h1, h2⟩ := h v' w' hx
  exact ⟨_, w', E, O', hy, h1, h2⟩

set_option maxRecDepth 100000 in
set_option maxHeartbeats 4000000 in
/-- From the loop's head to the receive. -/
theorem rcvTo {NextV : Value → (Nat → Prop) → Goroutine → World → Prop} {NextC : (Nat → Prop) → Goroutine → World → Prop} (hc : Q bc) {lm : List M4} {v : Value} {g : Goroutine} {w : World} (hA : AnchC bc b9 Cm v g) (hK : KC Wg Cm Cw bc b9 v lm w)
    (hV : ∀ (T : Array Value) (u : Value) (w₁ : World), T.size = 16 → T[0]? = some (.pointer (some ⟨bc, 0, none⟩)) → T[1]? = some (.pointer (some ⟨b9, 0, none⟩)) → T[2]? = some v → T[4]? = some (.chan (some Cm)) → T[5]? = some (.tuple #[u, .bool true]) → KC Wg Cm Cw bc b9 v lm w₁ → w.heap.size ≤ w₁.heap.size →
      NextV u (fun gS => v.ownBlock = some gS) (G (bC.at ⟨T, []⟩ (.inRegion opsC2 [1] :: [.code restC2, .inLoop loopC, .inBlock 0, .code tailC])) [bot]) w₁)
    (hC : ∀ (T : Array Value) (z : Value) (w₁ : World), T.size = 16 → T[1]? = some (.pointer (some ⟨b9, 0, none⟩)) → T[2]? = some v → T[5]? = some (.tuple #[z, .bool false]) → KC Wg Cm Cw bc b9 v lm w₁ →
      NextC (fun gS => v.ownBlock = some gS) (G (bC.at ⟨T, []⟩ (.inRegion opsC2 [1] :: [.code restC2, .inLoop loopC, .inBlock 0, .code tailC])) [bot]) w₁) :
    GoesO Tryz.prog false (RO lk.tWg Wg (fun b => Q b ∨ b = b9)) (fun b => Q b ∨ b = b9) (AtRc Tryz.prog lk.tWg Wg Cm (fun b => Q b ∨ b = b9) NextV NextC) 5 (fun gS => v.ownBlock = some gS) g w := by
  obtain ⟨T, hg, hT, t0, t1, t2, t4⟩ := hA
  subst hg
  obtain ⟨v0, v1, v2, v3, v4, v5, v6, v7, v8, v9, v10, v11, v12, v13, v14, v15, rfl⟩ := array16 T hT
  simp only [List.getElem?_toArray, List.getElem?_cons_succ, List.getElem?_cons_zero, Option.some.injEq] at t0 t1 t2 t4
  subst t0 t1 t2 t4
  have hsz0 : w.heap.size ≤ w.heap.size := Nat.le_refl _
  have hK2 := And.intro hK hsz0
  have rl : ∀ {w' w₁ : World}, (KC Wg Cm Cw bc b9 v2 lm w' ∧ w.heap.size ≤ w'.heap.size) → RO lk.tWg Wg (fun b => Q b ∨ b = b9) (fun gS => v2.ownBlock = some gS) w' w₁ → KC Wg Cm Cw bc b9 v2 lm w₁ ∧ w.heap.size ≤ w₁.heap.size := fun h r => ⟨h.1.rely hc (fun _ h => h) r, Nat.le_trans h.2 r.size⟩
  clear hK hsz0
  refine GoesO.of_goes (n := 0) (m := 5) roRf (fun _ _ x => x) ?_
  simp only [loopC, tailC, opsC2, restC2, bodyC, Tryz.f30, Option.getD_some] at hV hC ⊢
  u_c stepG_seq rl hK2
  u_reg rl hK2
  refine Goes.stop (fun w₁ h₁ => ?_)
  replace hK2 := rl hK2 h₁
  clear h₁
  refine GoesO.stop (fun w₁ h₁ => ?_)
  replace hK2 := rl hK2 h₁
  clear h₁
  refine ⟨rfl, _, stepG_recv rfl rfl (by decide) rfl rfl ⟨_, Tryz.underlying82⟩ (Tryz.zeroValue50 _), fun u w₂ h₂ => ?_, fun w₂ h₂ => ?_⟩
  · replace hK2 := rl hK2 h₂
    rw [core_G, served_G]
    walk_nrm
    exact hV _ u w₂ rfl rfl rfl rfl rfl rfl hK2.1 hK2.2
  · replace hK2 := rl hK2 h₂
    rw [core_G, served_G]
    walk_nrm
    exact hC _ _ w₂ rfl rfl rfl rfl hK2.1

set_option maxRecDepth 100000 in
set_option maxHeartbeats 4000000 in
/-- FROM THE LOOP's HEAD. -/
theorem rcvHead {Bq : Nat} {Poss Full : List Value → Prop} (hposs : ∀ l v, Poss (l ++ [v]) → l.length < 100000 ∧ ∃ x : M4, v = x.val) (hfull : ∀ lm : List M4, Full (lm.map M4.val) → lm.length ≤ 100000) (hc : Q bc) (hqw : ¬ Q Wg) (hbw : Bq ≤ Wg) (h9w : b9 ≠ Wg) :
    ∀ (r : Nat) (lm : List M4) (v : Value) (g : Goroutine) (w : World), (∀ gS, v.ownBlock = some gS → ¬ Q gS ∧ gS ≠ b9 ∧ gS ≠ Wg ∧ Bq ≤ gS) → AnchC bc b9 Cm v g → KC Wg Cm Cw bc b9 v lm w → (∀ b, Q b → b < w.heap.size) →
      GoesO Tryz.prog false (RO lk.tWg Wg (fun b => Q b ∨ b = b9)) (fun b => Q b ∨ b = b9) (AtRc Tryz.prog lk.tWg Wg Cm (fun b => Q b ∨ b = b9) (NxV Tryz.prog lk.tWg Wg Cm (fun b => Q b ∨ b = b9) Cw Poss Full (ResN Bq) r (lm.map M4.val)) (Srt Tryz.prog (fun b => Q b ∨ b = b9) Cw Full (ResN Bq) (lm.map M4.val)))
        5 (fun gS => v.ownBlock = some gS) g w := by
  intro r
  induction r with
  | zero =>
    intro lm v g w hv hA hK hQs
    exact rcvTo hc hA hK (fun _ _ _ _ _ _ _ _ _ _ _ => trivial) fun T z w₁ hT t1 t2 t5 hK₁ => srtN (hfull lm) (fun gS h => (hv gS h).2.1) (fun gS h => (hv gS h).2.2.2) T hT t1 t2 z t5 w₁ hK₁
  | succ r ih =>
    intro lm v g w hv hA hK hQs
    refine rcvTo hc hA hK (fun T u w₁ hT t0 t1 t2 t4 t5 hK₁ hsz hp => ?_) fun T z w₁ hT t1 t2 t5 hK₁ => srtN (hfull lm) (fun gS h => (hv gS h).2.1) (fun gS h => (hv gS h).2.2.2) T hT t1 t2 z t5 w₁ hK₁
    obtain ⟨hl3, x, rfl⟩ := hposs _ _ hp
    rw [List.length_map] at hl3
    rw [rcv_iff]
    have hQs₁ : ∀ b, Q b → b < w₁.heap.size := fun b hb => Nat.lt_of_lt_of_le (hQs b hb) hsz
    clear hA hK hsz hQs w hp
    obtain ⟨v0, v1, v2, v3, v4, v5, v6, v7, v8, v9, v10, v11, v12, v13, v14, v15, rfl⟩ := array16 T hT
    simp only [List.getElem?_toArray, List.getElem?_cons_succ, List.getElem?_cons_zero, Option.some.injEq] at t0 t1 t2 t4 t5
    subst t0 t1 t2 t4 t5
    have hF := And.intro hK₁ hQs₁
    clear hK₁ hQs₁
    have rl : ∀ {w w₁ : World}, (KC Wg Cm Cw bc b9 v2 lm w ∧ ∀ b, Q b → b < w.heap.size) → RO lk.tWg Wg (fun b => Q b ∨ b = b9) (fun gS => v2.ownBlock = some gS) w w₁ → KC Wg Cm Cw bc b9 v2 lm w₁ ∧ ∀ b, Q b → b < w₁.heap.size := fun h r => ⟨h.1.rely hc (fun _ h => h) r, fun b hb => Nat.lt_of_lt_of_le (h.2 b hb) r.size⟩
    refine ⟨60 + 30, ?_⟩
    refine GoesO.of_goes (n := 60) (m := 30) roRf (fun _ _ x => x) ?_
    simp only [opsC2, restC2, loopC, tailC, bodyC, Tryz.f30, Option.getD_some]
    u_op rl hF
    u_c stepG_region_end rl hF
    u_c stepG_seq rl hF
    u_cond true rl hF
    u_c stepG_skip rl hF
    u_c stepG_block rl hF
    u_c stepG_seq rl hF
    u_reg rl hF
    u_op rl hF
    refine Goes.stop (fun w₁ h₁ => ?_)
    replace hF := rl hF h₁
    clear h₁
    -- the box of the message
    refine GoesO.mem (n := 59) rfl rfl (by decide) (fun w₁ h₁ => ?_)
    replace hF := rl hF h₁
    clear h₁
    refine ⟨_, _, _, _, yld_alloc rfl (Tryz.zeroValue50 _) (evZero _), dox_new _, ?_⟩
    obtain ⟨l1, l2, l3, l4⟩ := hF.1.lt
    obtain ⟨N, hN⟩ : ∃ N, w₁.heap.size = N := ⟨_, rfl⟩
    have n1 : N ≠ bc := by omega
    have n2 : N ≠ b9 := by omega
    have n3 : N ≠ Wg := by omega
    have n4 : v2.ownBlock ≠ some N := fun h => by have := l4 N h; omega
    have n5 : ¬ Q N := fun h => by have := hF.2 N h; omega
    have hA := heap_alloc_new w₁ (.cells (Value.agg #[.int .i64 0, .string { data := #[] }, .int .i64 0, .string { data := #[] }]).cells 50)
    have hF1 := hF.1.own (b := N) (w₁ := w₁.alloc (.cells (Value.agg #[.int .i64 0, .string { data := #[] }, .int .i64 0, .string { data := #[] }]).cells 50)) (fun k hk _ => Below.heap_alloc w₁ _ k hk) n1 n2 n4 n3
    have hF2 : ∀ b, Q b → b < (w₁.alloc (.cells (Value.agg #[.int .i64 0, .string { data := #[] }, .int .i64 0, .string { data := #[] }]).cells 50)).heap.size := fun b hb => by have := hF.2 b hb; simp; omega
    rw [hN] at hA ⊢
    clear l1 l2 l3 l4 hN hF
    have hF := And.intro (And.intro hF1 hF2) hA
    clear hF1 hF2 hA
    generalize hw : w₁.alloc _ = w₂ at hF ⊢
    clear hw w₁
    have rl2 : ∀ {C : Array Value} {w w₁ : World}, ((KC Wg Cm Cw bc b9 v2 lm w ∧ ∀ b, Q b → b < w.heap.size) ∧ w.heap[N]? = some (.cells C 50 (0, 0))) → RO lk.tWg Wg (fun b => Q b ∨ b = b9) (fun b => v2.ownBlock = some b ∨ b = N) w w₁ →
        (KC Wg Cm Cw bc b9 v2 lm w₁ ∧ ∀ b, Q b → b < w₁.heap.size) ∧ w₁.heap[N]? = some (.cells C 50 (0, 0)) :=
      fun h r => ⟨⟨h.1.1.rely hc (fun _ h => .inl h) r, fun b hb => Nat.lt_of_lt_of_le (h.1.2 b hb) r.size⟩, (r.block N (.inl (.inr rfl))).trans h.2⟩
    walk_nrm
    -- it is filled
    refine GoesO.mem (n := 58) rfl rfl (by decide) (fun w₁ h₁ => ?_)
    replace hF := rl2 hF h₁
    clear h₁ w₂
    refine ⟨_, _, _, _, yld_store (v := .agg x.cells.toArray) rfl rfl rfl hF.2 (Tryz.sizeOf50 _) (evSize _) rfl (by simp [Value.cells, M4.cells, Value.oneCell']), dox_row (.inr rfl) _, ?_⟩
    have hA := setRow_heap w₁ N _ (Value.agg x.cells.toArray).cells _ _ hF.2
    have hF1 := hF.1.1.own (b := N) (w₁ := w₁.setRow N (Value.agg x.cells.toArray).cells) (fun k _ hk => setRow_other w₁ N k _ hk) n1 n2 n4 n3
    have hF2 : ∀ b, Q b → b < (w₁.setRow N (Value.agg x.cells.toArray).cells).heap.size := fun b hb => by have := hF.1.2 b hb; simpa using this
    clear hF
    have hF := And.intro (And.intro hF1 hF2) hA
    clear hF1 hF2 hA
    generalize hw : w₁.setRow N _ = w₂ at hF ⊢
    clear hw w₁
    refine GoesO.of_goes (n := 48) (m := 10) roRf (fun _ _ x => x) ?_
    walk_nrm
    u_c stepG_region_end rl2 hF
    u_reg rl2 hF
    u_op rl2 hF
    refine Goes.stop (fun w₁ h₁ => ?_)
    replace hF := rl2 hF h₁
    clear h₁
    -- it is read
    refine GoesO.mem (n := 47) rfl rfl (by decide) (fun w₁ h₁ => ?_)
    replace hF := rl2 hF h₁
    clear h₁
    refine ⟨_, _, _, _, yld_load (b := N) (off := 0) (cs := x.cells) rfl rfl (fun i v hv => by rw [cell_of_row _ _ _ _ _ _ hF.2]; simpa [Value.cells] using hv) (Tryz.isAgg50 _) (Tryz.sizeOf50 _) (evAgg _) (evSize _), dox_read (.inl (.inr rfl)), ?_⟩
    walk_nrm
    -- a slice of it
    obtain ⟨i4, hi, hz0, hz1, hz2⟩ := info_parts info34
    refine GoesO.mem (n := 46) rfl rfl (by decide) (fun w₁ h₁ => ?_)
    replace hF := rl2 hF h₁
    clear h₁
    refine ⟨_, _, _, _, yld_buildSlice (cells := x.cells.toArray) rfl Tryz.underlying28 hi hz0 (by rw [hz1]; decide) (by rw [hz1]; decide) ?_, dox_new _, ?_⟩
    · rw [hz1]
      refine (congrArg (Instr.fill _ _) ?_).trans (fill4 x)
      simp [Act.eval, M4.val]
    obtain ⟨l1, l2, l3, l4⟩ := hF.1.1.lt
    have l5 := heap_lt hF.2
    obtain ⟨M, hM⟩ : ∃ M, w₁.heap.size = M := ⟨_, rfl⟩
    have m1 : M ≠ bc := by omega
    have m2 : M ≠ b9 := by omega
    have m3 : M ≠ Wg := by omega
    have m4 : v2.ownBlock ≠ some M := fun h => by have := l4 M h; omega
    have m5 : ¬ Q M := fun h => by have := hF.1.2 M h; omega
    have hA := heap_alloc_new w₁ (.cells x.cells.toArray 50)
    have hF1 := hF.1.1.own (b := M) (w₁ := w₁.alloc (.cells x.cells.toArray 50)) (fun k hk _ => Below.heap_alloc w₁ _ k hk) m1 m2 m4 m3
    have hF2 : ∀ b, Q b → b < (w₁.alloc (.cells x.cells.toArray 50)).heap.size := fun b hb => by have := hF.1.2 b hb; simp; omega
    rw [hM] at hA ⊢
    clear l1 l2 l3 l4 l5 hM hF
    have hF := And.intro (And.intro hF1 hF2) hA
    clear hF1 hF2 hA rl2
    generalize hw : w₁.alloc _ = w₂ at hF ⊢
    clear hw w₁
    have rl3 : ∀ {w w₁ : World}, ((KC Wg Cm Cw bc b9 v2 lm w ∧ ∀ b, Q b → b < w.heap.size) ∧ w.heap[M]? = some (.cells x.cells.toArray 50 (0, 0))) → RO lk.tWg Wg (fun b => Q b ∨ b = b9) (fun b => (v2.ownBlock = some b ∨ b = N) ∨ b = M) w w₁ →
        (KC Wg Cm Cw bc b9 v2 lm w₁ ∧ ∀ b, Q b → b < w₁.heap.size) ∧ w₁.heap[M]? = some (.cells x.cells.toArray 50 (0, 0)) :=
      fun h r => ⟨⟨h.1.1.rely hc (fun _ h => .inl (.inl h)) r, fun b hb => Nat.lt_of_lt_of_le (h.1.2 b hb) r.size⟩, (r.block M (.inl (.inr rfl))).trans h.2⟩
    walk_nrm
    -- append
    refine GoesO.mem (n := 45) rfl rfl (by decide) (fun w₁ h₁ => ?_)
    replace hF := rl3 hF h₁
    clear h₁ w₂
    refine ex_append (Gn := fun a' => G (bC.at a' _) _) (yld_append1 rfl rfl rfl hF.1.1.row hF.2 hF.1.1.pl hl3) (fun v' w' ⟨hrow, hgr, hblk, hplv, hkdv⟩ => ?_)
    refine ⟨_, dox_append' hkdv (fun g hg => .inl (.inl hg)) (.inl (.inr rfl)) hgr hblk, ?_⟩
    have hKC : KC Wg Cm Cw bc b9 v' (lm ++ [x]) w' := by
      obtain ⟨st, sm, hw⟩ := hF.1.1.live
      have hw' : w₁.heap[Wg]? = some (wgBlock lk.tWg st sm) := hw
      exact ⟨(hgr.block bc (heap_lt hF.1.1.c) fun h => (hv bc h.symm).1 hc).trans hF.1.1.c, (hgr.block b9 (heap_lt hF.1.1.w9) fun h => (hv b9 h.symm).2.1 rfl).trans hF.1.1.w9, hrow, hplv, st, sm, (hgr.block Wg (heap_lt hw') fun h => (hv Wg h.symm).2.2.1 rfl).trans hw'⟩
    have hv' : ∀ gS, v'.ownBlock = some gS → ¬ Q gS ∧ gS ≠ b9 ∧ gS ≠ Wg ∧ Bq ≤ gS := fun gS h => by
      rcases hblk gS h with h | ⟨h, _⟩
      · exact hv gS h
      · obtain ⟨l1, l2, l3, l4⟩ := hF.1.1.lt
        exact ⟨fun hq => by have := hF.1.2 gS hq; omega, by omega, by omega, by omega⟩
    have hQ' : ∀ b, Q b → b < w'.heap.size := fun b hb => Nat.lt_of_lt_of_le (hF.1.2 b hb) hgr.size
    clear hF hrow hgr hblk hplv hkdv rl3 hv rl
    have hF := And.intro hKC hQ'
    clear hKC hQ'
    have rl : ∀ {w w₁ : World}, (KC Wg Cm Cw bc b9 v' (lm ++ [x]) w ∧ ∀ b, Q b → b < w.heap.size) → RO lk.tWg Wg (fun b => Q b ∨ b = b9) (fun gS => v'.ownBlock = some gS) w w₁ → KC Wg Cm Cw bc b9 v' (lm ++ [x]) w₁ ∧ ∀ b, Q b → b < w₁.heap.size := fun h r => ⟨h.1.rely hc (fun _ h => h) r, fun b hb => Nat.lt_of_lt_of_le (h.2 b hb) r.size⟩
    refine GoesO.of_goes (n := 5) (m := 40) roRf (fun _ _ x => x) ?_
    walk_nrm
    u_op rl hF
    u_c stepG_region_end rl hF
    u_c stepG_inBlock rl hF
    u_c stepG_inLoop rl hF
    refine Goes.stop (fun w₃ h₃ => ?_)
    replace hF := rl hF h₃
    have hm : (lm ++ [x]).map M4.val = lm.map M4.val ++ [x.val] := by simp
    rw [← hm]
    exact ih (lm ++ [x]) v' _ w₃ hv' ⟨_, rfl, rfl, rfl, rfl, rfl, rfl⟩ hF.1 hF.2
theorem bornC_step (w : World) : stepG Tryz.prog false (born Tryz.prog (callC bc b9)) w =
    .go (G (bC.at ⟨#[.pointer (some ⟨bc, 0, none⟩), .pointer (some ⟨b9, 0, none⟩), undef, undef, undef, undef, undef, undef, undef, undef, undef, undef, undef, undef, undef, undef], []⟩ [.code bodyC]) [bot]) w #[] := by
  simp [born, callC, stepG, unwind, callDeferred, invoke, callFunc, Tryz.func30, Tryz.f30, seen, GStep.after, G, Frame.enter, Frame.at, bC, baseD, bot, bodyC]

set_option maxRecDepth 100000 in
set_option maxHeartbeats 4000000 in
/-- ████ THE COLLECTOR's WHOLE WORK ████ -/
theorem collectsAll {Bq : Nat} {Poss Full : List Value → Prop} {w0 : World} (hposs : ∀ l v, Poss (l ++ [v]) → l.length < 100000 ∧ ∃ x : M4, v = x.val) (hfull : ∀ lm : List M4, Full (lm.map M4.val) → lm.length ≤ 100000) (hc : Q bc) (hqw : ¬ Q Wg) (hbw : Bq ≤ Wg) (h9w : b9 ≠ Wg) (hq0 : ∀ b, Q b → b < w0.heap.size) (tot : Nat)
    (w : World) (hK : FK Cm Cw bc b9 Q w0 w ∧ WgLive lk.tWg Wg w) : Rcv Tryz.prog lk.tWg Wg Cm (fun b => Q b ∨ b = b9) Cw Poss Full (ResN Bq) tot [] noO (born Tryz.prog (callC bc b9)) w := by
  have hO : (fun gS => (Value.slice none 0 0).ownBlock = some gS) = noO := by funext b; simp [Value.ownBlock, noO]
  rw [rcv_iff, ← hO]
  have hF : KC Wg Cm Cw bc b9 (.slice none 0 0) [] w ∧ ∀ b, Q b → b < w.heap.size := ⟨⟨hK.1.c, hK.1.w9, World.ownsRow_nil _ _ _ _, (fun g hg => by cases hg), hK.2⟩, fun b hb => Nat.lt_of_lt_of_le (hq0 b hb) hK.1.same.size⟩
  clear hK
  have rl : ∀ {w w₁ : World}, (KC Wg Cm Cw bc b9 (.slice none 0 0) [] w ∧ ∀ b, Q b → b < w.heap.size) → RO lk.tWg Wg (fun b => Q b ∨ b = b9) (fun gS => (Value.slice none 0 0).ownBlock = some gS) w w₁ → KC Wg Cm Cw bc b9 (.slice none 0 0) [] w₁ ∧ ∀ b, Q b → b < w₁.heap.size := fun h r => ⟨h.1.rely hc (fun _ h => h) r, fun b hb => Nat.lt_of_lt_of_le (h.2 b hb) r.size⟩
  refine ⟨(5 + 10 + 1) + 20, GoesO.of_goes (n := 5 + 10 + 1) (m := 20) roRf (fun _ _ x => x) ?_⟩
  refine Goes.step rfl fun w₁ r₁ => ?_
  rw [bornC_step]
  refine ⟨⟨rfl, rfl⟩, ?_⟩
  replace hF := rl hF r₁
  clear r₁
  simp only [bodyC, Tryz.f30, Option.getD_some]
  u_c stepG_seq rl hF
  u_reg rl hF
  u_op rl hF
  u_c stepG_region_end rl hF
  u_c stepG_seq rl hF
  u_c stepG_seq rl hF
  u_reg rl hF
  refine Goes.stop (fun w₁ h₁ => ?_)
  replace hF := rl hF h₁
  clear h₁
  refine GoesO.mem (n := 5 + 10) rfl rfl (by decide) (fun w₁ h₁ => ?_)
  replace hF := rl hF h₁
  clear h₁
  refine ⟨_, _, _, _, yld_load1 (ad := ⟨bc, 0, none⟩) (v := .chan (some Cm)) rfl rfl (by rw [cell_of_row _ _ _ _ _ _ hF.1.c]; rfl) (Tryz.isAgg82 _) (evAgg _), dox_read (.inr (.inl hc)), ?_⟩
  walk_nrm
  refine GoesO.of_goes (n := 5) (m := 10) roRf (fun _ _ x => x) ?_
  u_c stepG_region_end rl hF
  u_c stepG_block rl hF
  u_c stepG_loop rl hF
  refine Goes.stop fun w₁ h₁ => ?_
  replace hF := rl hF h₁
  exact rcvHead hposs hfull hc hqw hbw h9w tot [] (.slice none 0 0) _ w₁ (fun gS h => by cases h) ⟨_, rfl, rfl, rfl, rfl, rfl, rfl⟩ hF.1 hF.2
end
end Go.Proofs.YtmmjlngbiilagaaGreatDoor
