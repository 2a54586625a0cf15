/-
  INSERTION SORT OF MESSAGES: the swap.
-/
import Derived.Test.YtmmjlngbiilagaaDoorT09

namespace Go.Proofs.YtmmjlngbiilagaaDoor
open Go Go.Conc Go.RowKit Go.Lib

/-- vs written over cs from o on -/
def over (cs vs : List Value) (o : Nat) : List Value := cs.take o ++ vs ++ cs.drop (o + vs.length)
theorem over_length {cs vs : List Value} {o : Nat} (h : o + vs.length ≤ cs.length) : (over cs vs o).length = cs.length := by
  simp [over]; omega
theorem over_in {cs vs : List Value} {o k : Nat} (h : o + vs.length ≤ cs.length) (hk : k < vs.length) : (over cs vs o)[o + k]? = vs[k]? := by
  unfold over
  rw [List.append_assoc, List.getElem?_append_right (by simp; omega), List.getElem?_append_left (by simp; omega)]
  congr 1
  simp; omega
theorem over_out {cs vs : List Value} {o i : Nat} (h : o + vs.length ≤ cs.length) (hi : i < o ∨ o + vs.length ≤ i) : (over cs vs o)[i]? = cs[i]? := by
  unfold over
  rcases hi with hi | hi
  · rw [List.append_assoc, List.getElem?_append_left (by simp; omega), List.getElem?_take_of_lt hi]
  · rw [List.getElem?_append_right (by simp; omega), List.getElem?_drop]
    congr 1
    simp; omega

section
variable {P : Program} {o : Oper} {a : Act} {w : World}
theorem events_storeAt (g off : Nat) (t : TypeId) : ∀ (vs : List Value) (i : Nat) (cur : Array Value) (w : World) (es : Array Event), w.heap[g]? = some (.cells cur t (0, 0)) → off + i + vs.length ≤ cur.size → (∀ v ∈ vs, v.oneCell' = true) →
    ∀ e ∈ (storeCells ⟨g, off, none⟩ vs i).events P w es, e ∈ es ∨ AcB g e
  | [], _, _, _, _, _, _, _ => fun e h => .inl (by simpa [storeCells] using h)
  | v :: rest, i, cur, w, es, hg, hl, h1 => fun e h => by
    have hi : off + i < cur.size := by simp at hl; omega
    have hcell : w.cell? ⟨g, off + i, none⟩ = some cur[off + i] := by simp [World.cell?, hg, hi]
    have hfro : w.frozen? ⟨g, off + i, none⟩ = false := by simp [World.frozen?, hg]
    have hst : (store ((⟨g, off, none⟩ : Addr).add i) v).run P w = .ok () (w.setRow g (cur.setIfInBounds (off + i) v)) := by
      rw [add0, run_store P w _ v _ (h1 v (by simp)), hcell]
      simp [hfro, setCell_eq_setRow w g (off + i) cur t (0, 0) v hg]
    have hev : (store ((⟨g, off, none⟩ : Addr).add i) v).events P w es = es.push ⟨.cell ⟨g, off + i, none⟩, true, false⟩ := by
      rw [add0, events_store P w es _ v _ (h1 v (by simp)), hcell]
      simp only [hfro, Bool.false_eq_true, if_false]
      rfl
    simp only [storeCells, Sem.events_bind, hst, Result.evThen_ok, hev] at h
    rcases events_storeAt g off t rest (i + 1) (cur.setIfInBounds (off + i) v) (w.setRow g (cur.setIfInBounds (off + i) v)) _ (setRow_heap w g cur _ t _ hg) (by simp at hl ⊢; omega) (fun x hx => h1 x (by simp [hx])) e h with h | h
    · rcases Array.mem_push.1 h with h | rfl
      · exact .inl h
      · exact .inr ⟨_, _, rfl, rfl⟩
    · exact .inr h

/-- A STORE INTO A BLOCK's MIDST. -/
theorem yld_storeAt {ty : TypeId} {x y : Operand} (ho : o.op = .store ty x y) {g off : Nat} (hx : a.eval x = .pointer (some ⟨g, off, none⟩)) {vs : List Value} (hy : a.eval y = .agg vs.toArray) {t : TypeId} {cur : Array Value} (hg : w.heap[g]? = some (.cells cur t (0, 0)))
    (hs : (sizeOf ty).run P w = .ok vs.length w) (hse : ∀ es, (sizeOf ty).events P w es = es) (hfit : off + vs.length ≤ cur.size) (h1 : ∀ v ∈ vs, v.oneCell' = true) :
    Yld P o a w (AcB g) (a.put o.dst undef) (w.setRow g (over cur.toList vs off).toArray) := by
  have hst := run_storeCells_at P g off t vs 0 cur w hg (by simpa using hfit) h1
  simp only [Nat.add_zero] at hst
  have hfin : (storeVar ty ⟨g, off, none⟩ (.agg vs.toArray)).run P w = .ok () (w.setRow g (over cur.toList vs off).toArray) := by
    simp [storeVar, Sem.run_bind, hs, Value.cells, hst, over]
  refine Yld.skip ?_ ?_
  · unfold execOp
    simp [ho, hx, hy, Instr.storeAt, Instr.sureAddr, hfin]
  · intro e he
    unfold execOp at he
    simp only [ho, hx, hy, Instr.storeAt, Instr.sureAddr, storeVar, Sem.events_bind, Sem.run_bind, Sem.run_pure, Sem.events_pure, Result.evThen_ok, Result.andThen_ok, hs, hse, Value.cells, List.size_toArray] at he
    have hne : (vs.length ≠ vs.length) = False := by simp
    simp only [hne, if_false, Sem.events_bind, Sem.run_bind, Sem.run_pure, Sem.events_pure, Result.evThen_ok, Result.andThen_ok, List.toList_toArray, hst] at he
    rcases events_storeAt g off t vs 0 cur w #[] hg (by simpa using hfit) h1 e he with h | h
    · simp at h
    · exact h
end

theorem dst_row {O Q : Nat → Prop} {B : Nat} {w : World} {g : Nat} (hg : O g) (cells : Array Value) : ∀ es : Array Event, (∀ e ∈ es, AcB g e) → DSt O Q B w (w.setRow g cells) es := fun es h =>
  ⟨rfl, rfl, rfl, by simp, fun b _ _ hn => setRow_other w g b cells (fun e => hn (by rw [e]; exact hg)), fun e he => by
    obtain ⟨ad, wr, rfl, rfl⟩ := h e he
    exact ⟨rfl, .inl (.inl hg)⟩⟩

theorem HS.store {gS cap B : Nat} {l : List M4} {w0 w : World} (h : HS gS cap l B w0 w) {i : Nat} (hi : i < l.length) (hc : l.length ≤ cap) (x : M4) {cur : Array Value} (hcur : w.heap[gS]? = some (.cells cur 34 (0, 0))) :
    i * 4 + x.cells.length ≤ cur.size ∧ HS gS cap (l.set i x) B w0 (w.setRow gS (over cur.toList x.cells (i * 4)).toArray) := by
  obtain ⟨cur', h1, h2, h3⟩ := h.blk
  rw [hcur] at h1
  cases h1
  have hl : x.cells.length = 4 := rfl
  have hfit : i * 4 + x.cells.length ≤ cur.toList.length := by rw [hl, Array.length_toList]; omega
  refine ⟨by simpa using hfit, ⟨⟨_, setRow_heap w gS cur _ _ _ hcur, by rw [List.size_toArray, over_length hfit, Array.length_toList]; exact h2, fun j y hy k v hv => ?_⟩, h.tape, h.os, h.output, by simpa using h.size, fun b hb hn => (setRow_other w gS b _ hn).trans (h.other b hb hn), h.n0⟩⟩
  have hk : k < 4 := by have := (List.getElem?_eq_some_iff.1 hv).1; exact this
  rw [List.getElem?_toArray]
  by_cases hji : j = i
  · subst hji
    rw [List.getElem?_set_self hi] at hy
    cases hy
    rw [over_in hfit (by omega)]
    exact hv
  · rw [List.getElem?_set_ne (Ne.symm hji)] at hy
    rw [over_out hfit (by omega), Array.getElem?_toList]
    exact h3 j y hy k v hv

/-- What the swap's operations yield. -/
def VS (gS n cap j : Nat) (x y : M4) (p : Nat) (v : Value) : Prop :=
  match p with
  | 0 | 2 | 5 | 10 => v = .slice (some ⟨gS, 0, none⟩) n cap
  | 1 | 3 | 6 | 11 => v = .int .i64 j
  | 4 | 7 => v = .int .i64 ((j - 1 : Nat) : Int)
  | 8 | 16 => v = .pointer (some ⟨gS, (j - 1) * 4, none⟩)
  | 9 => v = y.val
  | 12 | 14 => v = .pointer (some ⟨gS, j * 4, none⟩)
  | 13 => v = x.val
  | _ => True
/-- What memory holds meanwhile. -/
def memS (l : List M4) (j : Nat) (x y : M4) (L : Nat → Bool) : List M4 := if L 17 then (l.set j y).set (j - 1) x else if L 15 then l.set j y else l

set_option maxRecDepth 100000 in
set_option maxHeartbeats 4000000 in
/-- ONE OPERATION OF THE SWAP. -/
theorem swap_step {main : Bool} (O Q : Nat → Prop) (B : Nat) : ∀ (gS n cap j : Nat) (x y : M4) (l : List M4) (w0 : World) (a0 : Act), O gS → l.length = n → n ≤ cap → j < n → 0 < j → j < 9223372036854775807 → l[j]? = some x → l[j - 1]? = some y →
    a0.tmps[0]? = some (.slice (some ⟨gS, 0, none⟩) n cap) → a0.tmps[9]? = some (.int .i64 j) →
    ∀ i o, opsI6[i]? = some o → ∀ L a w, L i = false → (∀ e ∈ o.after, Region.binds .any e = true → L e.on = true) → RJ opsI6 a0 (fun p v _ => VS gS n cap j x y p v) (fun L w => HS gS cap (memS l j x y L) B w0 w ∧ (L 17 = true → L 15 = true) ∧ (L 15 = true → L 9 = true ∧ L 13 = true)) L a w →
      Op1C Tryd.prog main AtRel (DSt O Q B) 42 opsI6 i 1 (fun a' w' => ∃ v, a' = a.put o.dst v ∧ (o.dst ≠ none → VS gS n cap j x y i v) ∧ (HS gS cap (memS l j x y (updL L i)) B w0 w' ∧ (updL L i 17 = true → updL L i 15 = true) ∧ (updL L i 15 = true → updL L i 9 = true ∧ updL L i 13 = true)) ∧ ∀ p u, L p = true → VS gS n cap j x y p u → VS gS n cap j x y p u) a w := by
  have T := termsSt O Q B
  intro gS n cap j x y l w0 a0 hO hln hcap hjn hj0 hj63 hx hy e0 e9 i o ho L a w hL hdep hJ
  have f0 := hJ.old (s := 0) (by kernel_rfl) e0
  have f9 := hJ.old (s := 9) (by kernel_rfl) e9
  obtain ⟨hS, h17, h15⟩ := hJ.s
  have rd : ∀ {w₁ : World}, AtRel w w₁ → Grew w w₁ := fun r => (Grew.refl w).rel r
  have fin : ∀ {w₁ : World} {v : Value}, i ≠ 15 → i ≠ 17 → Grew w w₁ → VS gS n cap j x y i v → ∃ v', a.put o.dst v = a.put o.dst v' ∧ (o.dst ≠ none → VS gS n cap j x y i v') ∧ (HS gS cap (memS l j x y (updL L i)) B w0 w₁ ∧ (updL L i 17 = true → updL L i 15 = true) ∧ (updL L i 15 = true → updL L i 9 = true ∧ updL L i 13 = true)) ∧ ∀ p u, L p = true → VS gS n cap j x y p u → VS gS n cap j x y p u :=
    fun {w₁ v} n15 n17 g hv => ⟨_, rfl, fun _ => hv, by
      have e1 : updL L i 17 = L 17 := by simp [updL, Ne.symm n17]
      have e2 : updL L i 15 = L 15 := by simp [updL, Ne.symm n15]
      unfold memS
      rw [e1, e2]
      exact ⟨hS.grew g, h17, fun h => ⟨by unfold updL; split <;> first | rfl | exact (h15 h).1, by unfold updL; split <;> first | rfl | exact (h15 h).2⟩⟩, fun _ _ _ h => h⟩
  have pure' : ∀ {v : Value}, i ≠ 15 → i ≠ 17 → o.guard = none → (∀ w₁, Yld Tryd.prog o a w₁ NoE (a.put o.dst v) w₁) → VS gS n cap j x y i v →
      Op1C Tryd.prog main AtRel (DSt O Q B) 42 opsI6 i 1 (fun a' w' => ∃ v, a' = a.put o.dst v ∧ (o.dst ≠ none → VS gS n cap j x y i v) ∧ (HS gS cap (memS l j x y (updL L i)) B w0 w' ∧ (updL L i 17 = true → updL L i 15 = true) ∧ (updL L i 15 = true → updL L i 9 = true ∧ updL L i 13 = true)) ∧ ∀ p u, L p = true → VS gS n cap j x y p u → VS gS n cap j x y p u) a w :=
    fun {v} n15 n17 hg hy hv => op1_yld ho (by simp [Region.wanted, hg]) fun w₁ hR => ⟨v, w₁, NoE, hy w₁, dst_none, fin n15 n17 (rd hR) hv⟩
  have hwr : IntKind.i64.wrap ((j : Int) - 1) = ((j - 1 : Nat) : Int) := by rw [IntKind.wrap_i64]; omega
  have hlt : i < 18 := (Array.getElem?_eq_some_iff.1 ho).1
  have ho2 := ho
  simp only [opsI6, innerIns, loopIns, bodyIns, Tryd.f42, Option.getD_some] at ho2
  obtain rfl | rfl | rfl | rfl | rfl | rfl | rfl | rfl | rfl | rfl | rfl | rfl | rfl | rfl | rfl | rfl | rfl | rfl : i = 0 ∨ i = 1 ∨ i = 2 ∨ i = 3 ∨ i = 4 ∨ i = 5 ∨ i = 6 ∨ i = 7 ∨ i = 8 ∨ i = 9 ∨ i = 10 ∨ i = 11 ∨ i = 12 ∨ i = 13 ∨ i = 14 ∨ i = 15 ∨ i = 16 ∨ i = 17 := by omega
  all_goals simp only [List.getElem?_toArray, List.getElem?_cons_succ, List.getElem?_cons_zero, Option.some.injEq] at ho2
  all_goals subst ho2
  · exact pure' (by decide) (by decide) rfl (fun _ => yld_move rfl f0) rfl
  · exact pure' (by decide) (by decide) rfl (fun _ => yld_move rfl f9) rfl
  · exact pure' (by decide) (by decide) rfl (fun _ => yld_move rfl f0) rfl
  · exact pure' (by decide) (by decide) rfl (fun _ => yld_move rfl f9) rfl
  · exact pure' (by decide) (by decide) rfl (fun _ => yld_sub rfl (hJ.val (j := 3) (s := 40) (by kernel_rfl) (hdep ⟨3, .data⟩ (by simp) rfl)) rfl) (by rw [hwr]; rfl)
  · exact pure' (by decide) (by decide) rfl (fun _ => yld_move rfl f0) rfl
  · exact pure' (by decide) (by decide) rfl (fun _ => yld_move rfl f9) rfl
  · exact pure' (by decide) (by decide) rfl (fun _ => yld_sub rfl (hJ.val (j := 6) (s := 43) (by kernel_rfl) (hdep ⟨6, .data⟩ (by simp) rfl)) rfl) (by rw [hwr]; rfl)
  · exact pure' (by decide) (by decide) rfl (fun _ => yld_index27 (j := j - 1) (by omega) rfl (hJ.val (j := 5) (s := 42) (by kernel_rfl) (hdep ⟨5, .data⟩ (by simp) rfl)) (hJ.val (j := 7) (s := 44) (by kernel_rfl) (hdep ⟨7, .data⟩ (by simp) rfl))) rfl
  · have n15 : L 15 = false := by cases h : L 15 with | false => rfl | true => exact absurd (h15 h).1 (by rw [hL]; decide)
    have n17 : L 17 = false := by cases h : L 17 with | false => rfl | true => exact absurd (h17 h) (by rw [n15]; decide)
    have hm : memS l j x y L = l := by simp [memS, n15, n17]
    have hS2 := hS
    rw [hm] at hS2
    exact op1_yld ho rfl fun w₁ hR => ⟨_, w₁, _, yld_load (cs := y.cells) rfl (hJ.val (j := 8) (s := 45) (by kernel_rfl) (hdep ⟨8, .data⟩ (by simp) rfl)) ((hS2.rel hR).range hy) (Tryd.isAgg34 _) (Tryd.sizeOf34 _) (evAgg _) (evSize _), dst_read (.inl hO), fin (by decide) (by decide) (rd hR) rfl⟩
  · exact pure' (by decide) (by decide) rfl (fun _ => yld_move rfl f0) rfl
  · exact pure' (by decide) (by decide) rfl (fun _ => yld_move rfl f9) rfl
  · exact pure' (by decide) (by decide) rfl (fun _ => yld_index27 hjn rfl (hJ.val (j := 10) (s := 47) (by kernel_rfl) (hdep ⟨10, .data⟩ (by simp) rfl)) (hJ.val (j := 11) (s := 48) (by kernel_rfl) (hdep ⟨11, .data⟩ (by simp) rfl))) rfl
  · have n15 : L 15 = false := by cases h : L 15 with | false => rfl | true => exact absurd (h15 h).2 (by rw [hL]; decide)
    have n17 : L 17 = false := by cases h : L 17 with | false => rfl | true => exact absurd (h17 h) (by rw [n15]; decide)
    have hm : memS l j x y L = l := by simp [memS, n15, n17]
    have hS2 := hS
    rw [hm] at hS2
    exact op1_yld ho rfl fun w₁ hR => ⟨_, w₁, _, yld_load (cs := x.cells) rfl (hJ.val (j := 12) (s := 49) (by kernel_rfl) (hdep ⟨12, .data⟩ (by simp) rfl)) ((hS2.rel hR).range hx) (Tryd.isAgg34 _) (Tryd.sizeOf34 _) (evAgg _) (evSize _), dst_read (.inl hO), fin (by decide) (by decide) (rd hR) rfl⟩
  · exact pure' (by decide) (by decide) rfl (fun _ => yld_index27 hjn rfl (hJ.val (j := 0) (s := 37) (by kernel_rfl) (hdep ⟨0, .data⟩ (by simp) rfl)) (hJ.val (j := 1) (s := 38) (by kernel_rfl) (hdep ⟨1, .data⟩ (by simp) rfl))) rfl
  · have n17 : L 17 = false := by cases h : L 17 with | false => rfl | true => exact absurd (h17 h) (by rw [hL]; decide)
    have hm : memS l j x y L = l := by simp [memS, hL, n17]
    rw [hm] at hS
    refine op1_yld ho rfl fun w₁ hR => ?_
    have hS1 := hS.rel hR
    obtain ⟨cur, hcur, _⟩ := hS1.blk
    obtain ⟨hfit, hS2⟩ := hS1.store (i := j) (by omega) (by omega) y hcur
    refine ⟨undef, _, _, yld_storeAt rfl (hJ.val (j := 14) (s := 51) (by kernel_rfl) (hdep ⟨14, .data⟩ (by simp) rfl)) (vs := y.cells) (hJ.val (j := 9) (s := 46) (by kernel_rfl) (hdep ⟨9, .data⟩ (by simp) rfl)) hcur (Tryd.sizeOf34 _) (evSize _) hfit (by simp [M4.cells, Value.oneCell']), dst_row hO _, _, rfl, fun h => absurd rfl h, ⟨?_, fun h => by simp [updL], fun _ => ⟨?_, ?_⟩⟩, fun _ _ _ h => h⟩
    · have : memS l j x y (updL L 15) = l.set j y := by simp [memS, updL, n17]
      rw [this]
      exact hS2
    · simpa [updL] using hdep ⟨9, .data⟩ (by simp) rfl
    · simpa [updL] using hdep ⟨13, .phase⟩ (by simp) rfl
  · exact pure' (by decide) (by decide) rfl (fun _ => yld_index27 (j := j - 1) (by omega) rfl (hJ.val (j := 2) (s := 39) (by kernel_rfl) (hdep ⟨2, .data⟩ (by simp) rfl)) (hJ.val (j := 4) (s := 41) (by kernel_rfl) (hdep ⟨4, .data⟩ (by simp) rfl))) rfl
  · have h15' := hdep ⟨15, .chain⟩ (by simp) rfl
    have hm : memS l j x y L = l.set j y := by simp [memS, hL, h15']
    rw [hm] at hS
    refine op1_yld ho rfl fun w₁ hR => ?_
    have hS1 := hS.rel hR
    obtain ⟨cur, hcur, _⟩ := hS1.blk
    obtain ⟨hfit, hS2⟩ := hS1.store (i := j - 1) (by simp; omega) (by simp; omega) x hcur
    refine ⟨undef, _, _, yld_storeAt rfl (hJ.val (j := 16) (s := 52) (by kernel_rfl) (hdep ⟨16, .data⟩ (by simp) rfl)) (vs := x.cells) (hJ.val (j := 13) (s := 50) (by kernel_rfl) (hdep ⟨13, .data⟩ (by simp) rfl)) hcur (Tryd.sizeOf34 _) (evSize _) hfit (by simp [M4.cells, Value.oneCell']), dst_row hO _, _, rfl, fun h => absurd rfl h, ⟨?_, fun h => by simpa [updL] using h15', fun h => ?_⟩, fun _ _ _ h => h⟩
    · have : memS l j x y (updL L 17) = (l.set j y).set (j - 1) x := by simp [memS, updL]
      rw [this]
      exact hS2
    · have := h15 h15'
      simpa [updL] using this
end Go.Proofs.YtmmjlngbiilagaaDoor

/-
  INSERTION SORT OF MESSAGES, whole.
-/
namespace Go.Proofs.YtmmjlngbiilagaaDoor
open Go Go.Conc Go.RowKit Go.Lib

theorem array53 (T : Array Value) (h : T.size = 53) : ∃ v0 v1 v2 v3 v4 v5 v6 v7 v8 v9 v10 v11 v12 v13 v14 v15 v16 v17 v18 v19 v20 v21 v22 v23 v24 v25 v26 v27 v28 v29 v30 v31 v32 v33 v34 v35 v36 v37 v38 v39 v40 v41 v42 v43 v44 v45 v46 v47 v48 v49 v50 v51 v52 : Value,
    T = #[v0, v1, v2, v3, v4, v5, v6, v7, v8, v9, v10, v11, v12, v13, v14, v15, v16, v17, v18, v19, v20, v21, v22, v23, v24, v25, v26, v27, v28, v29, v30, v31, v32, v33, v34, v35, v36, v37, v38, v39, v40, v41, v42, v43, v44, v45, v46, v47, v48, v49, v50, v51, v52] := by
  obtain ⟨l⟩ := T
  simp only [List.size_toArray] at h
  rcases l with _ | ⟨v0, _ | ⟨v1, _ | ⟨v2, _ | ⟨v3, _ | ⟨v4, _ | ⟨v5, _ | ⟨v6, _ | ⟨v7, _ | ⟨v8, _ | ⟨v9, _ | ⟨v10, _ | ⟨v11, _ | ⟨v12, _ | ⟨v13, _ | ⟨v14, _ | ⟨v15, l⟩⟩⟩⟩⟩⟩⟩⟩⟩⟩⟩⟩⟩⟩⟩⟩ <;> try simp at h
  rcases l with _ | ⟨v16, _ | ⟨v17, _ | ⟨v18, _ | ⟨v19, _ | ⟨v20, _ | ⟨v21, _ | ⟨v22, _ | ⟨v23, _ | ⟨v24, _ | ⟨v25, _ | ⟨v26, _ | ⟨v27, _ | ⟨v28, _ | ⟨v29, _ | ⟨v30, _ | ⟨v31, l⟩⟩⟩⟩⟩⟩⟩⟩⟩⟩⟩⟩⟩⟩⟩⟩ <;> try simp at h
  rcases l with _ | ⟨v32, _ | ⟨v33, _ | ⟨v34, _ | ⟨v35, _ | ⟨v36, _ | ⟨v37, _ | ⟨v38, _ | ⟨v39, _ | ⟨v40, _ | ⟨v41, _ | ⟨v42, _ | ⟨v43, _ | ⟨v44, _ | ⟨v45, _ | ⟨v46, _ | ⟨v47, l⟩⟩⟩⟩⟩⟩⟩⟩⟩⟩⟩⟩⟩⟩⟩⟩ <;> try simp at h
  rcases l with _ | ⟨v48, _ | ⟨v49, _ | ⟨v50, _ | ⟨v51, _ | ⟨v52, _ | ⟨x, l⟩⟩⟩⟩⟩⟩ <;> try simp at h
  exact ⟨v0, v1, v2, v3, v4, v5, v6, v7, v8, v9, v10, v11, v12, v13, v14, v15, v16, v17, v18, v19, v20, v21, v22, v23, v24, v25, v26, v27, v28, v29, v30, v31, v32, v33, v34, v35, v36, v37, v38, v39, v40, v41, v42, v43, v44, v45, v46, v47, v48, v49, v50, v51, v52, rfl⟩

/-- A message goes down to its place. -/
def bub : Nat → List M4 → List M4
  | 0, l => l
  | j + 1, l => match l[j + 1]?, l[j]? with
    | some x, some y => if cmpM x y < 0 then bub j ((l.set (j + 1) y).set j x) else l
    | _, _ => l
theorem bub_length : ∀ (j : Nat) (l : List M4), (bub j l).length = l.length
  | 0, _ => rfl
  | j + 1, l => by
    unfold bub
    split
    · split
      · rw [bub_length]; simp
      · rfl
    · rfl
/-- r messages from number i on. -/
def isortFrom : Nat → Nat → List M4 → List M4
  | 0, _, l => l
  | r + 1, i, l => isortFrom r (i + 1) (bub i l)
def isort (l : List M4) : List M4 := isortFrom (l.length - 1) 1 l

/-- Where it stands: i, j. -/
structure AtI (gS n cap : Nat) (i j : Nat) (a : Act) : Prop where
  d : a.defers = []
  size : a.tmps.size = 53
  t0 : a.tmps[0]? = some (.slice (some ⟨gS, 0, none⟩) n cap)
  t1 : a.tmps[1]? = some (.int .i64 0)
  t2 : a.tmps[2]? = some (.int .i64 n)
  t3 : a.tmps[3]? = some (.func (.func 16) #[] #[])
  t8 : a.tmps[8]? = some (.int .i64 i)
  t9 : a.tmps[9]? = some (.int .i64 j)
theorem AtI.put {gS n cap i j : Nat} {a : Act} (h : AtI gS n cap i j a) {ops : Array Oper} {V : Nat → Value → World → Prop} {S : (Nat → Bool) → World → Prop} {L : Nat → Bool} {a' : Act} {w : World} (hJ : RJ ops a V S L a' w) (hd : (dstNot ops 0 && dstNot ops 1 && dstNot ops 2 && dstNot ops 3 && dstNot ops 8 && dstNot ops 9) = true) : AtI gS n cap i j a' := by
  simp only [Bool.and_eq_true] at hd
  obtain ⟨⟨⟨⟨⟨h0, h1⟩, h2⟩, h3⟩, h8⟩, h9⟩ := hd
  have key : ∀ s, dstNot ops s = true → a'.tmps[s]? = a.tmps[s]? := fun s hs => hJ.other s fun j o hj _ => dstNot_spec hs hj
  exact ⟨hJ.defers.trans h.d, hJ.size.trans h.size, (key 0 h0).trans h.t0, (key 1 h1).trans h.t1, (key 2 h2).trans h.t2, (key 3 h3).trans h.t3, (key 8 h8).trans h.t8, (key 9 h9).trans h.t9⟩

def MuJ (a : Act) (_ : World) : Nat := match a.tmps.getD 9 undef with | .int _ j => j.toNat | _ => 0
def MuI (n : Nat) (a : Act) (_ : World) : Nat := match a.tmps.getD 8 undef with | .int _ i => n - i.toNat | _ => 0

set_option maxRecDepth 100000 in
set_option maxHeartbeats 4000000 in
/-- ONE ROUND OF THE INNER LOOP. -/
theorem inner_c {main : Bool} (O Q : Nat → Prop) (B n : Nat) : ∃ r, ∀ (gS cap i j : Nat) (l : List M4) (w0 : World) (a : Act) (w : World) (K : Exit → Act → World → Prop), O gS → l.length = n → n ≤ cap → n ≤ 9223372036854775807 → j < n → AtI gS n cap i j a → HS gS cap l B w0 w →
    (∀ a' w', (∀ x y, 0 < j → l[j]? = some x → l[j - 1]? = some y → ¬ cmpM x y < 0) → AtI gS n cap i j a' → HS gS cap l B w0 w' → K (.exit 2) a' w') →
    (∀ x y a' w', 0 < j → l[j]? = some x → l[j - 1]? = some y → cmpM x y < 0 → AtI gS n cap i (j - 1) a' → HS gS cap ((l.set j y).set (j - 1) x) B w0 w' → K .normal a' w') →
    innerIns.wpC Tryd.prog main AtRel (DSt O Q B) 42 r K a w := by
  have T := termsSt O Q B
  obtain ⟨c, htest⟩ := test_step (main := main) O Q B
  co_apply Exists.intro
  intro gS cap i j l w0 a w K hO hl hcap hn63 hj hA hS kexit knorm
  obtain ⟨x, hx⟩ : ∃ x, l[j]? = some x := ⟨_, List.getElem?_eq_getElem (by omega)⟩
  obtain ⟨y, hy⟩ : ∃ y, l[j - 1]? = some y := ⟨_, List.getElem?_eq_getElem (by omega)⟩
  have hst := htest gS n cap j x y l w0 a hO hj (by omega) (fun _ => ⟨hx, hy⟩) hA.t0 hA.t1 hA.t3 hA.t9
  simp only [innerIns, loopIns, bodyIns, opsI4, Tryd.f42, Option.getD_some] at hst ⊢
  co_apply wpC_seq T
  co_apply wpC_seq T
  co_apply wpC_any T (drawSt O Q B) (by kernel_rfl) (c := c) (V := fun p v _ => VT gS n cap j x y p v) (S := fun _ w' => HS gS cap l B w0 w') (by kernel_rfl) (by kernel_rfl) (by rw [hA.size]; kernel_rfl)
  · intro w₁ hR; exact (hS.rel hR).rel ⟨_, rfl⟩
  · exact hst
  · intro L a' w' hL hJ
    co_then
    have hA' := hA.put hJ (by kernel_rfl)
    have hS' := hJ.s
    have h34 : a'.eval (.tmp 34) = .bool (decide (0 < j ∧ cmpM x y < 0)) := hJ.val (j := 16) (s := 34) (by kernel_rfl) (hL 16 (by decide))
    clear hJ hL hst
    co_apply wpC_cond_split T (t := decide (0 < j ∧ cmpM x y < 0))
    · exact h34
    · intro ht
      obtain ⟨hj0, hc⟩ : 0 < j ∧ cmpM x y < 0 := of_decide_eq_true ht
      co_apply wpC_skip T
      co_then
      co_apply wpC_seq T
      co_apply wpC_block T
      have hsw := swap_step (main := main) O Q B gS n cap j x y l w0 a' hO hl hcap hj hj0 (by omega) hx hy hA'.t0 hA'.t9
      simp only [innerIns, loopIns, bodyIns, opsI6, Tryd.f42, Option.getD_some] at hsw
      co_apply wpC_any T (drawSt O Q B) (by kernel_rfl) (c := 1) (V := fun p v _ => VS gS n cap j x y p v) (S := fun L w => HS gS cap (memS l j x y L) B w0 w ∧ (L 17 = true → L 15 = true) ∧ (L 15 = true → L 9 = true ∧ L 13 = true)) (by kernel_rfl) (by kernel_rfl) (by rw [hA'.size]; kernel_rfl)
      · intro w₁ hR
        refine ⟨?_, by intro h; simp at h, by intro h; simp at h⟩
        have : memS l j x y (fun _ => false) = l := by simp [memS]
        rw [this]
        exact (hS'.rel hR).rel ⟨_, rfl⟩
      · exact hsw
      · intro L a2 w2 hL hJ
        co_then
        have hA2 := hA'.put hJ (by kernel_rfl)
        have hS2 := hJ.s.1
        have hm : memS l j x y L = (l.set j y).set (j - 1) x := by simp [memS, hL 17 (by decide)]
        rw [hm] at hS2
        clear hJ hL hsw hm
        obtain ⟨T2, ds⟩ := a2
        obtain rfl : ds = [] := hA2.d
        obtain ⟨v0, v1, v2, v3, v4, v5, v6, v7, v8, v9, v10, v11, v12, v13, v14, v15, v16, v17, v18, v19, v20, v21, v22, v23, v24, v25, v26, v27, v28, v29, v30, v31, v32, v33, v34, v35, v36, v37, v38, v39, v40, v41, v42, v43, v44, v45, v46, v47, v48, v49, v50, v51, v52, rfl⟩ := array53 T2 hA2.size
        obtain ⟨_, _, t0, t1, t2, t3, t8, t9⟩ := hA2
        simp only [List.getElem?_toArray, List.getElem?_cons_succ, List.getElem?_cons_zero, Option.some.injEq] at t0 t1 t2 t3 t8 t9
        subst t0 t1 t2 t3 t8 t9
        have hwr : IntKind.i64.wrap ((j : Int) - 1) = ((j - 1 : Nat) : Int) := by rw [IntKind.wrap_i64]; omega
        co_go T HS.rel hS2 (co_quiet T)
        exact knorm x y _ _ hj0 hx hy hc ⟨rfl, rfl, rfl, rfl, rfl, rfl, rfl, by simp [hwr]⟩ hS2
    · intro hf
      have hnot : ¬ (0 < j ∧ cmpM x y < 0) := of_decide_eq_false hf
      co_apply wpC_exit T
      exact kexit a' w' (fun x' y' hj0 hx' hy' hlt => hnot ⟨hj0, by rw [hx] at hx'; rw [hy] at hy'; cases hx'; cases hy'; exact hlt⟩) hA' hS'
/-- Where the inner loop stands: what is still to be done to its list leads to tgt. -/
def InvJ (gS n cap i B : Nat) (tgt : List M4) (w0 : World) (a : Act) (w : World) : Prop :=
  ∃ (j : Nat) (lc : List M4), j ≤ i ∧ j < n ∧ lc.length = n ∧ bub j lc = tgt ∧ AtI gS n cap i j a ∧ HS gS cap lc B w0 w
/-- Where the outer one stands. -/
structure AtO (gS n cap : Nat) (i : Nat) (a : Act) : Prop where
  d : a.defers = []
  size : a.tmps.size = 53
  t0 : a.tmps[0]? = some (.slice (some ⟨gS, 0, none⟩) n cap)
  t1 : a.tmps[1]? = some (.int .i64 0)
  t2 : a.tmps[2]? = some (.int .i64 n)
  t3 : a.tmps[3]? = some (.func (.func 16) #[] #[])
  t8 : a.tmps[8]? = some (.int .i64 i)
def InvI (gS n cap B : Nat) (tgt : List M4) (w0 : World) (a : Act) (w : World) : Prop :=
  ∃ (i r : Nat) (lc : List M4), 0 < i ∧ i + r = n ∧ lc.length = n ∧ isortFrom r i lc = tgt ∧ AtO gS n cap i a ∧ HS gS cap lc B w0 w
theorem AtI.muJ {gS n cap i j : Nat} {a : Act} (h : AtI gS n cap i j a) (w : World) : MuJ a w = j := by simp [MuJ, h.t9]
theorem AtO.muI {gS n cap i : Nat} {a : Act} (h : AtO gS n cap i a) (w : World) : MuI n a w = n - i := by simp [MuI, h.t8]

set_option maxRecDepth 100000 in
set_option maxHeartbeats 4000000 in
/-- ████ INSERTION SORT ████ -/
theorem insertion_c {main : Bool} (O Q : Nat → Prop) (B n : Nat) (hn0 : 0 < n) (hn63 : n < 9223372036854775807) : ∃ k, ∀ (gS cap : Nat) (l : List M4) (w : World), O gS → l.length = n → n ≤ cap → HS gS cap l B w w →
    CallsC Tryd.prog main AtRel (DSt O Q B) 42 #[.slice (some ⟨gS, 0, none⟩) n cap, .int .i64 0, .int .i64 n, .func (.func 16) #[] #[]] k w fun _ w' => HS gS cap (isort l) B w w' := by
  have T := termsSt O Q B
  obtain ⟨r, hin⟩ := inner_c (main := main) O Q B n
  co_apply Exists.intro
  intro gS cap l w hO hl hcap hS
  co_apply callsC_of_wpC Tryd.func42 (by rfl) rfl
  have hi := hin gS cap
  have hS0 : HS gS cap l B w w := hS
  simp only [innerIns, loopIns, bodyIns, Tryd.f42, Tryd.ntmps42, Option.getD_some, List.size_toArray, List.length_cons, List.length_nil, Nat.reduceAdd, Nat.reduceSub, Array.replicate_succ, Array.replicate_zero, List.push_toArray, List.append_toArray, List.nil_append, List.cons_append] at hi ⊢
  have hw1 : IntKind.i64.wrap ((0 : Int) + 1) = 1 := by decide
  co_go T HS.rel hS (co_quiet T)
  co_apply wpC_loop T (InvI gS n cap B (isort l) w) (MuI n) _ n
  · exact ⟨1, n - 1, l, by omega, by omega, hl, by unfold isort; rw [hl], ⟨rfl, rfl, rfl, rfl, rfl, rfl, rfl⟩, hS⟩
  · simp [MuI]
  · rintro a w' ⟨i, r, lc, hi0, hir, hlc, htgt, hA, hSc⟩
    obtain ⟨T2, ds⟩ := a
    have hmu := hA.muI w'
    obtain rfl : ds = [] := hA.d
    obtain ⟨v0, v1, v2, v3, v4, v5, v6, v7, v8, v9, v10, v11, v12, v13, v14, v15, v16, v17, v18, v19, v20, v21, v22, v23, v24, v25, v26, v27, v28, v29, v30, v31, v32, v33, v34, v35, v36, v37, v38, v39, v40, v41, v42, v43, v44, v45, v46, v47, v48, v49, v50, v51, v52, rfl⟩ := array53 T2 hA.size
    obtain ⟨_, _, t0, t1, t2, t3, t8⟩ := hA
    simp only [List.getElem?_toArray, List.getElem?_cons_succ, List.getElem?_cons_zero, Option.some.injEq] at t0 t1 t2 t3 t8
    subst t0 t1 t2 t3 t8
    have hSc' := hSc
    rw [hmu]
    co_go T HS.rel hSc (co_quiet T)
    co_split T (decide ((i : Int) < (n : Int)))
    · intro hlt
      have hin : i < n := by have := of_decide_eq_true hlt; omega
      obtain ⟨r', rfl⟩ : ∃ r', r = r' + 1 := ⟨r - 1, by omega⟩
      co_go T HS.rel hSc (co_quiet T)
      co_apply wpC_loop T (InvJ gS n cap i B (bub i lc) w) MuJ _ n
      · exact ⟨i, lc, Nat.le_refl _, hin, hlc, rfl, ⟨rfl, rfl, rfl, rfl, rfl, rfl, rfl, rfl⟩, hSc⟩
      · simp [MuJ]; omega
      · rintro a2 w2 ⟨j, lj, hji, hjn, hlj, hbub, hA2, hS2⟩
        refine hi i j lj w a2 w2 _ hO hlj hcap (by omega) hjn hA2 hS2 (fun a3 w3 hno hA3 hS3 => ?_) (fun x y a3 w3 hj0 hx hy hc hA3 hS3 => ?_)
        · -- it has come to its place
          have hdone : bub j lj = lj := by
            cases j with
            | zero => rfl
            | succ j =>
              unfold bub
              obtain ⟨x, hx⟩ : ∃ x, lj[j + 1]? = some x := ⟨_, List.getElem?_eq_getElem (by omega)⟩
              obtain ⟨y, hy⟩ : ∃ y, lj[j]? = some y := ⟨_, List.getElem?_eq_getElem (by omega)⟩
              have := hno x y (by omega) hx hy
              simp [hx, hy, this]
          rw [hdone] at hbub
          subst hbub
          co_then
          obtain ⟨T3, ds⟩ := a3
          obtain rfl : ds = [] := hA3.d
          obtain ⟨u0, u1, u2, u3, u4, u5, u6, u7, u8, u9, u10, u11, u12, u13, u14, u15, u16, u17, u18, u19, u20, u21, u22, u23, u24, u25, u26, u27, u28, u29, u30, u31, u32, u33, u34, u35, u36, u37, u38, u39, u40, u41, u42, u43, u44, u45, u46, u47, u48, u49, u50, u51, u52, rfl⟩ := array53 T3 hA3.size
          obtain ⟨_, _, t0, t1, t2, t3, t8, t9⟩ := hA3
          simp only [List.getElem?_toArray, List.getElem?_cons_succ, List.getElem?_cons_zero, Option.some.injEq] at t0 t1 t2 t3 t8 t9
          subst t0 t1 t2 t3 t8 t9
          have hwi : IntKind.i64.wrap ((i : Int) + 1) = ((i + 1 : Nat) : Int) := by rw [IntKind.wrap_i64]; omega
          co_go T HS.rel hS3 (co_quiet T)
          refine ⟨⟨i + 1, r', _, by omega, by omega, by rw [bub_length]; exact hlc, htgt, ⟨rfl, rfl, rfl, rfl, rfl, rfl, by simp [hwi]⟩, hS3⟩, ?_⟩
          simp [MuI, hwi]
          omega
        · refine ⟨⟨j - 1, _, by omega, by omega, by simp [hlj], ?_, hA3, hS3⟩, by rw [hA3.muJ, hA2.muJ]; omega⟩
          obtain ⟨j', rfl⟩ : ∃ j', j = j' + 1 := ⟨j - 1, by omega⟩
          rw [← hbub]
          simp only [Nat.add_sub_cancel] at hy ⊢
          conv => rhs; unfold bub
          simp [hx, hy, hc]
    · intro hlt
      have hin : ¬ i < n := by have := of_decide_eq_false hlt; omega
      obtain rfl : r = 0 := by omega
      co_go T HS.rel hSc (co_quiet T)
      simp only [isortFrom] at htgt
      rw [htgt] at hSc
      exact ⟨rfl, _, resultsC_none (by rfl) _, hSc⟩
end Go.Proofs.YtmmjlngbiilagaaDoor

/-
  slices.SortFunc OF THREE MESSAGES.
-/
namespace Go.Proofs.YtmmjlngbiilagaaDoor
open Go Go.Conc Go.RowKit Go.Lib

/-- A byte of a string. -/
theorem yld_indexStr {o : Oper} {a : Act} {w : World} {x y : Operand} {s : ByteArray} {k : IntKind} {i : Int} {b : UInt8} (ho : o.op = .index 9 x y) (hx : a.eval x = .string s) (hy : a.eval y = .int k i) (h0 : 0 ≤ i) (hb : s[i.toNat]? = some b) : Yld Tryd.prog o a w NoE (a.put o.dst (.int .u8 b.toNat)) w := by
  refine yld_none ?_ ?_
  · unfold execOp
    simp [ho, hx, hy, Instr.index, asIntOf, Tryd.runUnderlying9, h0, hb]
  · unfold execOp
    simp [ho, hx, hy, Instr.index, asIntOf, Tryd.runUnderlying9, h0, hb, evUnd]

section
variable {main : Bool} {R : World → World → Prop} {D : World → World → Array Event → Prop}
set_option maxRecDepth 100000 in
theorem len64_c (T : Terms R D) : ∃ n, ∀ (w : World), CallsC Tryd.prog main R D 51 #[.int .u64 3] n w fun v w' => v = .int .i64 2 ∧ Since R w w' := by
  co_apply Exists.intro
  intro w
  co_apply callsC_of_wpC Tryd.func51 (by rfl) rfl
  have hF : Since R w w := .refl w
  simp only [Tryd.ntmps51, List.size_toArray, List.length_cons, List.length_nil, Nat.reduceAdd, Nat.reduceSub, Array.replicate_succ, Array.replicate_zero, List.push_toArray, List.append_toArray, List.nil_append, List.cons_append]
  co_go T (Since.rely T) hF (co_quiet T)
  co_apply wpC_cond T (t := false)
  focus (exact rfl)
  simp only [Bool.false_eq_true, if_false]
  co_go T (Since.rely T) hF (co_quiet T)
  co_apply wpC_cond T (t := false)
  focus (exact rfl)
  simp only [Bool.false_eq_true, if_false]
  co_go T (Since.rely T) hF (co_quiet T)
  co_apply wpC_cond T (t := false)
  focus (exact rfl)
  simp only [Bool.false_eq_true, if_false]
  co_apply wpC_skip T
  co_then
  co_apply wpC_seq T
  co_reg T
  co_op (Since.rely T) hF (co_quiet T)
  co_op (Since.rely T) hF (co_quiet T)
  co_op (Since.rely T) hF (co_quiet T)
  co_apply opsC_yld rfl (by rfl)
  intro w₁ hR
  replace hF := Since.rely T hF hR
  clear hR
  refine ⟨_, _, _, yld_indexStr (b := 2) (i := IntKind.u8.wrap 3) rfl rfl rfl (by decide) (by kernel_rfl), fun es h => ?_, ?_⟩
  · have : es = #[] := Array.eq_empty_iff_forall_not_mem.2 fun e he => h e he
    rw [this]
    exact T.idle _
  walk_nrm
  co_go T (Since.rely T) hF (co_quiet T)
  exact ⟨rfl, _, resultsC_tmp (by rfl) _, rfl, hF⟩

set_option maxRecDepth 100000 in
theorem len_c (T : Terms R D) : ∃ n, ∀ (w : World), CallsC Tryd.prog main R D 23 #[.int .u64 3] n w fun v w' => v = .int .i64 2 ∧ Since R w w' := by
  obtain ⟨nn, hc⟩ := len64_c (main := main) T
  co_apply Exists.intro
  intro w
  co_apply callsC_of_wpC Tryd.func23 (by rfl) rfl
  have hF : Since R w w := .refl w
  simp only [Tryd.ntmps23, List.size_toArray, List.length_cons, List.length_nil, Nat.reduceAdd, Nat.reduceSub, Array.replicate_succ, Array.replicate_zero, List.push_toArray, List.append_toArray, List.nil_append, List.cons_append]
  co_stmt T (Since.rely T) hF (co_quiet T)
  co_apply wpC_seq T
  co_apply wpC_cond T (t := false)
  focus (exact rfl)
  simp only [Bool.false_eq_true, if_false]
  co_apply wpC_skip T
  co_then
  co_apply wpC_seq T
  co_reg T
  co_op (Since.rely T) hF (co_quiet T)
  co_apply opsC_call T rfl (by rfl) rfl
  · walk_nrm
    exact hc _
  rintro v w' ⟨rfl, hs⟩
  replace hF := hs.elim (fun e => e ▸ hF) fun r => Since.rely T hF r
  clear hs
  walk_nrm
  co_go T (Since.rely T) hF (co_quiet T)
  exact ⟨rfl, _, resultsC_tmp (by rfl) _, rfl, hF⟩
end
/-- A loop that is left in its first round. -/
theorem wpC_loop_once {P : Program} {main : Bool} {R : World → World → Prop} {D : World → World → Array Event → Prop} {fn : FuncId} {Q : Exit → Act → World → Prop} {a : Act} {w : World} {c : Code} {r : Nat} (T : Terms R D)
    (h : c.wpC P main R D fn r (Exit.then (fun _ _ => False) Q) a w) : (Code.loop c).wpC P main R D fn ((0 + 1) * (r + 1) + 1) Q a w :=
  wpC_loop T (fun a' w' => a' = a ∧ w' = w) (fun _ _ => 0) r 0 ⟨rfl, rfl⟩ (Nat.le_refl _) fun a' w' ⟨e1, e2⟩ => by
    subst e1 e2
    exact wpC_mono h fun e _ _ q => by cases e <;> first | exact q.elim | exact q

theorem HS.self {gS cap B : Nat} {l : List M4} {w0 w : World} (h : HS gS cap l B w0 w) : HS gS cap l B w w := ⟨h.blk, rfl, rfl, rfl, Nat.le_refl _, fun _ _ _ => rfl, Nat.le_trans h.n0 h.size⟩
theorem HS.trans {gS cap B : Nat} {l l' : List M4} {w0 w w' : World} (h : HS gS cap l B w0 w) (h' : HS gS cap l' B w w') : HS gS cap l' B w0 w' :=
  ⟨h'.blk, h'.tape.trans h.tape, h'.os.trans h.os, h'.output.trans h.output, Nat.le_trans h.size h'.size, fun b hb hn => (h'.other b (Nat.lt_of_lt_of_le hb h.size) hn).trans (h.other b hb hn), h.n0⟩

set_option maxRecDepth 100000 in
set_option maxHeartbeats 4000000 in
theorem pdq_c {main : Bool} (O Q : Nat → Prop) (B : Nat) : ∃ k, ∀ (gS cap : Nat) (l : List M4) (w : World), O gS → l.length = 3 → 3 ≤ cap → HS gS cap l B w w →
    CallsC Tryd.prog main AtRel (DSt O Q B) 22 #[.slice (some ⟨gS, 0, none⟩) 3 cap, .int .i64 0, .int .i64 3, .int .i64 2, .func (.func 16) #[] #[]] k w fun _ w' => HS gS cap (isort l) B w w' := by
  have T := termsSt O Q B
  obtain ⟨r, hin⟩ := insertion_c (main := main) O Q B 3 (by omega) (by omega)
  co_apply Exists.intro
  intro gS cap l w hO hl hcap hS
  co_apply callsC_of_wpC Tryd.func22 (by rfl) rfl
  have hS0 := hS
  simp only [Tryd.ntmps22, List.size_toArray, List.length_cons, List.length_nil, Nat.reduceAdd, Nat.reduceSub, Array.replicate_succ, Array.replicate_zero, List.push_toArray, List.append_toArray, List.nil_append, List.cons_append]
  co_stmt T HS.rel hS (co_quiet T)
  co_stmt T HS.rel hS (co_quiet T)
  co_apply wpC_block T
  co_apply wpC_loop_once T
  ·
    co_apply wpC_block T
    co_apply wpC_seq T
    co_reg T
    co_op HS.rel hS (co_quiet T)
    co_op HS.rel hS (co_quiet T)
    co_op HS.rel hS (co_quiet T)
    co_op HS.rel hS (co_quiet T)
    co_apply opsC_nil T
    co_then
    co_apply wpC_seq T (n₂ := 0)
    co_apply wpC_seq T
    co_reg T
    co_op HS.rel hS (co_quiet T)
    co_op HS.rel hS (co_quiet T)
    co_apply opsC_nil T
    co_then
    co_apply wpC_cond T (t := true)
    focus (exact rfl)
    simp only [if_true]
    co_apply wpC_seq T
    co_reg T
    co_op HS.rel hS (co_quiet T)
    co_op HS.rel hS (co_quiet T)
    co_op HS.rel hS (co_quiet T)
    co_op HS.rel hS (co_quiet T)
    co_apply opsC_call T rfl (by rfl) rfl
    · walk_nrm
      exact hin gS cap l _ hO hl hcap hS.self
    intro v w2 hp
    replace hS := hS.trans hp
    clear hp
    walk_nrm
    co_apply opsC_nil T
    co_then
    co_apply wpC_ret T
    exact ⟨rfl, _, resultsC_none (by rfl) _, hS⟩

set_option maxRecDepth 100000 in
/-- ████ slices.SortFunc ████ -/
theorem sort_c {main : Bool} (O Q : Nat → Prop) (B : Nat) : ∃ k, ∀ (gS cap : Nat) (l : List M4) (w : World), O gS → l.length = 3 → 3 ≤ cap → HS gS cap l B w w →
    CallsC Tryd.prog main AtRel (DSt O Q B) 15 #[.slice (some ⟨gS, 0, none⟩) 3 cap, .func (.func 16) #[] #[]] k w fun _ w' => HS gS cap (isort l) B w w' := by
  have T := termsSt O Q B
  obtain ⟨r, hin⟩ := pdq_c (main := main) O Q B
  obtain ⟨r2, hlen⟩ := len_c (main := main) T
  co_apply Exists.intro
  intro gS cap l w hO hl hcap hS
  co_apply callsC_of_wpC Tryd.func15 (by rfl) rfl
  simp only [Tryd.ntmps15, List.size_toArray, List.length_cons, List.length_nil, Nat.reduceAdd, Nat.reduceSub, Array.replicate_succ, Array.replicate_zero, List.push_toArray, List.append_toArray, List.nil_append, List.cons_append]
  co_apply wpC_seq T
  co_reg T
  co_op HS.rel hS (co_quiet T)
  co_op HS.rel hS (co_quiet T)
  co_op HS.rel hS (co_quiet T)
  co_apply opsC_nil T
  co_then
  co_reg T
  co_op HS.rel hS (co_quiet T)
  co_op HS.rel hS (co_quiet T)
  co_op HS.rel hS (co_quiet T)
  co_op HS.rel hS (co_quiet T)
  co_apply opsC_call T rfl (by rfl) rfl
  · walk_nrm
    exact hlen _
  rintro v w2 ⟨rfl, hs⟩
  replace hS := hS.grew ((Grew.refl _).drawn (since_drawn hs))
  clear hs
  walk_nrm
  co_op HS.rel hS (co_quiet T)
  co_apply opsC_call T rfl (by rfl) rfl
  · walk_nrm
    exact hin gS cap l _ hO hl hcap hS.self
  intro v w3 hp
  replace hS := hS.trans hp
  clear hp
  walk_nrm
  co_apply opsC_nil T
  exact ⟨rfl, _, resultsC_none (by rfl) _, hS⟩
end Go.Proofs.YtmmjlngbiilagaaDoor
