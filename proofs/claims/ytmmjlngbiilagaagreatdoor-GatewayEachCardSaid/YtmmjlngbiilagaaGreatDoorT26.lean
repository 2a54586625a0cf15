/-
  GOROUTINE 0's WALK: the law asks the rejected message's error: a region whose order is drawn.
-/
import Derived.Test.YtmmjlngbiilagaaGreatDoorT25

namespace Go.Proofs.YtmmjlngbiilagaaGreatDoor
open Go Go.Conc Go.Shelf Go.RowKit Go.Lib Go.Sort

theorem ba_full {s : ByteArray} (h : 0 < s.size) : s.toList.isEmpty = false := by
  rw [Lib.toList_data]
  cases hl : s.data.toList with
  | nil =>
    have h2 : s.data.size = 0 := by simpa using congrArg List.length hl
    have h3 : s.size = s.data.size := rfl
    omega
  | cons _ _ => rfl
theorem wanted_of {ops : Array Oper} {o : Oper} {a : Act} {j s : Nat} {b : Bool} (hg : o.guard = some (j, b)) (hd : (ops[j]?).bind (fun o => o.dst) = some s) (h : a.tmps[s]?.getD undef = .bool b) : Region.wanted o (yielded ops a.tmps) = true := by
  simp only [Region.wanted, hg, yielded]
  cases hx : a.tmps[s]? with
  | none => rw [hx] at h; cases h
  | some u =>
    rw [hx] at h
    simp only [Option.getD_some] at h
    subst h
    simp [hd, hx]
/-- Behind errors.As: the variable is set; other blocks are kept. -/
structure PA (w0 : World) (tr r : Nat) (w : World) : Prop where
  os : w.os = w0.os
  output : w.output = w0.output
  size : w0.heap.size ≤ w.heap.size
  keep : ∀ b, b < w0.heap.size → b ≠ tr → w.heap[b]? = w0.heap[b]?
  at_ : w.cell? ⟨tr, 0, none⟩ = some (.pointer (some ⟨r, 0, none⟩))
  nil : w0.cell? ⟨tr, 0, none⟩ = some (.pointer none)
theorem PA.ne {w0 w : World} {tr r : Nat} (h : PA w0 tr r w) : w ≠ w0 := fun e => by
  have h1 := h.at_
  rw [e, h.nil] at h1
  cases h1
theorem PA.cell {w0 w : World} {tr r : Nat} (h : PA w0 tr r w) {p : Addr} {y : Value} (hp : w0.cell? p = some y) (hne : p.block ≠ tr) : w.cell? p = some y := by
  have hl := World.block_lt_of_cell? w0 _ hp
  have := h.keep p.block hl hne
  simp only [World.cell?] at hp ⊢
  rw [this]
  exact hp
theorem PA.bl {w0 w w' : World} {tr r : Nat} (h : PA w0 tr r w) (hb : Bl w.heap.size w w') : PA w0 tr r w' :=
  ⟨hb.os.trans h.os, hb.output.trans h.output, Nat.le_trans h.size hb.size, fun b hl hn => (hb.block b (Nat.lt_of_lt_of_le hl h.size)).trans (h.keep b hl hn), bl_cell hb h.at_, h.nil⟩
theorem PA.rej {w0 w : World} {tr r : Nat} {x : M4} (h : PA w0 tr r w) (hr : RejAt r x w0) (hne : r ≠ tr) : RejAt r x w := ⟨h.cell hr.c0 hne, h.cell hr.c1 hne, h.cell hr.c2 hne, h.cell hr.c3 hne, h.cell hr.c4 hne⟩
/-- The reference's message at its place. -/
structure RowX (b3 n : Nat) (x : M4) (w : World) : Prop where
  d0 : w.cell? ⟨b3, n * 4, none⟩ = some (.int .i64 x.t)
  d1 : w.cell? ⟨b3, n * 4 + 1, none⟩ = some (.string x.m)
  d2 : w.cell? ⟨b3, n * 4 + 2, none⟩ = some (.int .i64 x.s)
  d3 : w.cell? ⟨b3, n * 4 + 3, none⟩ = some (.string x.p)
theorem PA.row {w0 w : World} {tr r b3 n : Nat} {x : M4} (h : PA w0 tr r w) (hr : RowX b3 n x w0) (hne : b3 ≠ tr) : RowX b3 n x w := ⟨h.cell hr.d0 hne, h.cell hr.d1 hne, h.cell hr.d2 hne, h.cell hr.d3 hne⟩
def Z18 (r tr ti b3 n m c3 : Nat) (x : M4) (i : Nat) (z : Value) : Prop :=
  match i with
  | 0 | 16 | 28 => z = .iface 36 (.pointer (some ⟨r, 0, none⟩))
  | 1 => z = .iface 47 (.pointer (some ⟨tr, 0, none⟩))
  | 2 | 19 => z = .bool true
  | 5 | 6 | 7 | 23 => z = .pointer (some ⟨r, 0, none⟩)
  | 8 | 12 => z = .agg (m4cells x)
  | 9 => z = .slice (some ⟨b3, 0, none⟩) m c3
  | 10 => z = .int .i64 n
  | 11 => z = .pointer (some ⟨b3, n * 4, none⟩)
  | 17 => z = .agg #[]
  | 18 => z = refV
  | 24 => ∃ s : ByteArray, z = .string s ∧ 0 < s.size
  | 29 => z = .iface 39 (.pointer (some ⟨ti, 0, none⟩))
  | _ => z = .bool false
def U18 (w0 : World) (L : Nat → Bool) (w : World) : Prop := L 2 = false → w = w0
/-- From the third operation on. -/
def PAF (i : Nat) (w0 : World) (tr r : Nat) (w : World) : Prop := 2 ≤ i → PA w0 tr r w
theorem paf {i tr r : Nat} {w0 w : World} (h : PA w0 tr r w) : PAF i w0 tr r w := fun _ => h
theorem paf0 {i tr r : Nat} {w0 w : World} (hi : i < 2) : PAF i w0 tr r w := fun h => absurd h (by omega)
theorem s18_upd {w0 w : World} {L : Nat → Bool} {i : Nat} (hi : i ≠ 2) (h : U18 w0 L w) : U18 w0 (updL L i) w := fun h2 => h (by simpa [updL, Ne.symm hi] using h2)
theorem s18_no {w0 w w' : World} {L : Nat → Bool} {i tr r : Nat} (h : U18 w0 L w) (hp : PA w0 tr r w) (hi : i ≠ 2) : U18 w0 (updL L i) w' := fun h2 => absurd (h (by simpa [updL, Ne.symm hi] using h2)) hp.ne
section
variable {Gd : GB} {F : Nat → Prop} {w0 : World}
set_option maxRecDepth 100000 in
set_option maxHeartbeats 16000000 in
theorem r18_step (hgl : ∀ g, glH g = true → Gd g) (h6 : Gd 6) {r tr ti b3 n m c3 : Nat} {x : M4} (hgr : Gd r) (hrej : RejAt r x w0) (hne : r ≠ tr) (hrow : RowX b3 n x w0) (hne3 : b3 ≠ tr) (hnm : n < m) (hm3 : m ≤ 300) (u : Nat) (hxs : x.s = u) (hu : u ≤ 100000) (hxm : x.m.size ≤ 1000)
    (htab : ∀ w, PA w0 tr r w → Lib.TabIs Vh w "internal/strconv.uint64pow10" .u64 Lib.pow10Tab)
    (hAs : CallsV Vh Tryz.prog Gd 9 #[.iface 36 (.pointer (some ⟨r, 0, none⟩)), .iface 47 (.pointer (some ⟨tr, 0, none⟩))] F w0 fun F' z v' => F' = F ∧ z = .bool true ∧ PA w0 tr r v')
    (hAsM : ∀ w, PA w0 tr r w → CallsV Vh Tryz.prog Gd 9 #[.iface 36 (.pointer (some ⟨r, 0, none⟩)), .iface 39 (.pointer (some ⟨ti, 0, none⟩))] F w fun F' z v' => F' = F ∧ z = .bool false ∧ Bl w.heap.size w v')
    (a0 : Act) (ha8 : a0.tmps[8]? = some (.iface 36 (.pointer (some ⟨r, 0, none⟩)))) (ha9 : a0.tmps[9]? = some (.pointer (some ⟨ti, 0, none⟩))) (ha10 : a0.tmps[10]? = some (.pointer (some ⟨tr, 0, none⟩))) (ha12 : a0.tmps[12]? = some (.slice (some ⟨b3, 0, none⟩) m c3)) (ha13 : a0.tmps[13]? = some (.int .i64 n)) :
    ∀ i o, ops18G[i]? = some o → ∀ L a v, L i = false → (∀ e ∈ o.after, Region.binds .any e = true → L e.on = true) → RJ ops18G a0 (fun i z w => Z18 r tr ti b3 n m c3 x i z ∧ PAF i w0 tr r w) (U18 w0) L a v →
      Op1V Vh Tryz.prog Gd 3 ops18G i (fun a' v' => ∃ z, a' = a.put o.dst z ∧ (o.dst ≠ none → Z18 r tr ti b3 n m c3 x i z ∧ PAF i w0 tr r v') ∧ U18 w0 (updL L i) v' ∧ ∀ j u, L j = true → (Z18 r tr ti b3 n m c3 x j u ∧ PAF j w0 tr r v) → (Z18 r tr ti b3 n m c3 x j u ∧ PAF j w0 tr r v')) F a v := by
  intro i o ho L a v hL hdep hJ
  have f8 : a.tmps[8]?.getD undef = .iface 36 (.pointer (some ⟨r, 0, none⟩)) := by rw [hJ.old' (s := 8) (by kernel_rfl), ha8]; rfl
  have f9 : a.tmps[9]?.getD undef = .pointer (some ⟨ti, 0, none⟩) := by rw [hJ.old' (s := 9) (by kernel_rfl), ha9]; rfl
  have f10 : a.tmps[10]?.getD undef = .pointer (some ⟨tr, 0, none⟩) := by rw [hJ.old' (s := 10) (by kernel_rfl), ha10]; rfl
  have f12 : a.tmps[12]?.getD undef = .slice (some ⟨b3, 0, none⟩) m c3 := by rw [hJ.old' (s := 12) (by kernel_rfl), ha12]; rfl
  have f13 : a.tmps[13]?.getD undef = .int .i64 n := by rw [hJ.old' (s := 13) (by kernel_rfl), ha13]; rfl
  have hlt : i < 32 := (Array.getElem?_eq_some_iff.1 ho).1
  have hS : U18 w0 L v := hJ.s
  have HXS := Lib.hid hxs
  clear hxs
  (have tpc := tpC; have tpf := tpF; have tpa := tpA; have tps := tpS; have tph := tpH)
  have ho2 := ho
  simp only [ops18G, bodyGE, Tryz.f3, Option.getD_some] at ho2
  have hcs : i < 8 ∨ (8 ≤ i ∧ i < 16) ∨ (16 ≤ i ∧ i < 24) ∨ (24 ≤ i ∧ i < 32) := by omega
  obtain rfl | rfl | rfl | rfl | rfl | rfl | rfl | rfl | rfl | rfl | rfl | rfl | rfl | rfl | rfl | rfl | rfl | rfl | rfl | rfl | rfl | rfl | rfl | rfl | rfl | rfl | rfl | rfl | rfl | rfl | rfl | rfl : i = 0 ∨ i = 1 ∨ i = 2 ∨ i = 3 ∨ i = 4 ∨ i = 5 ∨ i = 6 ∨ i = 7 ∨ i = 8 ∨ i = 9 ∨ i = 10 ∨ i = 11 ∨ i = 12 ∨ i = 13 ∨ i = 14 ∨ i = 15 ∨ i = 16 ∨ i = 17 ∨ i = 18 ∨ i = 19 ∨ i = 20 ∨ i = 21 ∨ i = 22 ∨ i = 23 ∨ i = 24 ∨ i = 25 ∨ i = 26 ∨ i = 27 ∨ i = 28 ∨ i = 29 ∨ i = 30 ∨ i = 31 := by omega
  all_goals simp only [List.getElem?_toArray, List.getElem?_cons_succ, List.getElem?_cons_zero, Option.some.injEq] at ho2
  all_goals subst ho2
  all_goals clear hcs
  -- STEPS
  · refine op1V_op ho (by rfl) (fun B hn => opsH hn hgl (by first | rfl | kernel_rfl)) (fun τ p => ?_)
    clear hJ hdep ho
    go_simp
    exact ⟨v, rfl, _, rfl, ⟨rfl, paf0 (by omega)⟩, s18_upd (by omega) hS, fun _ _ _ h1 h2 => ⟨h1, h2⟩⟩
  · refine op1V_op ho (by rfl) (fun B hn => opsH hn hgl (by first | rfl | kernel_rfl)) (fun τ p => ?_)
    clear hJ hdep ho
    go_simp
    exact ⟨v, rfl, _, rfl, ⟨rfl, paf0 (by omega)⟩, s18_upd (by omega) hS, fun _ _ _ h1 h2 => ⟨h1, h2⟩⟩
  · have h0 : a.tmps[87]?.getD undef = .iface 36 (.pointer (some ⟨r, 0, none⟩)) := by have := (hJ.val' (j := 0) (s := 87) (by kernel_rfl) (hdep ⟨0, .data⟩ (by simp) rfl)).1; simpa only [Z18, Array.getD_eq_getD_getElem?] using this
    have h1 : a.tmps[88]?.getD undef = .iface 47 (.pointer (some ⟨tr, 0, none⟩)) := by have := (hJ.val' (j := 1) (s := 88) (by kernel_rfl) (hdep ⟨1, .data⟩ (by simp) rfl)).1; simpa only [Z18, Array.getD_eq_getD_getElem?] using this
    have hw0 : v = w0 := hS hL
    subst hw0
    intro rest Q hK
    refine opsV_enter (R := ?R2) ho (by rfl) (run_callV rfl rfl Tryz.func9 (by kernel_rfl) rfl) (pf_call hgl (by rfl)) ?hc2 ?hn2
    case hc2 => (rw [show ((#[] : Array Value) ++ (#[Operand.tmp 87, Operand.tmp 88] : Array Operand).map a.eval ++ #[]) = #[.iface 36 (.pointer (some ⟨r, 0, none⟩)), .iface 47 (.pointer (some ⟨tr, 0, none⟩))] by simp [Act.eval, h0, h1]]; exact hAs)
    rintro F2 z v' ⟨rfl, rfl, hPA⟩
    exact hK _ _ ⟨_, rfl, fun _ => ⟨rfl, paf hPA⟩, (fun h => by simp [updL] at h), fun j u hj h => ⟨h.1, fun h2 => absurd rfl ((h.2 h2).ne)⟩⟩
  · have h2 : a.tmps[89]?.getD undef = .bool true := by have := (hJ.val' (j := 2) (s := 89) (by kernel_rfl) (hdep ⟨2, .data⟩ (by simp) rfl)).1; simpa only [Z18, Array.getD_eq_getD_getElem?] using this
    have hPA : PA w0 tr r v := (hJ.val' (j := 2) (s := 89) (by kernel_rfl) (hdep ⟨2, .data⟩ (by simp) rfl)).2 (by omega)
    refine op1V_op ho (by rfl) (fun B hn => opsH hn hgl (by first | rfl | kernel_rfl)) (fun τ p => ?_)
    clear hJ hdep ho
    go_simp
    exact ⟨v, rfl, _, rfl, ⟨rfl, paf hPA⟩, s18_upd (by omega) hS, fun _ _ _ h1 h2 => ⟨h1, h2⟩⟩
  · have h3 : a.tmps[90]?.getD undef = .bool false := by have := (hJ.val' (j := 3) (s := 90) (by kernel_rfl) (hdep ⟨3, .data⟩ (by simp) rfl)).1; simpa only [Z18, Array.getD_eq_getD_getElem?] using this
    have hPA : PA w0 tr r v := (hJ.val' (j := 3) (s := 90) (by kernel_rfl) (hdep ⟨3, .data⟩ (by simp) rfl)).2 (by omega)
    refine op1V_op ho (by rfl) (fun B hn => opsH hn hgl (by first | rfl | kernel_rfl)) (fun τ p => ?_)
    clear hJ hdep ho
    go_simp
    exact ⟨v, rfl, _, rfl, ⟨rfl, paf hPA⟩, s18_upd (by omega) hS, fun _ _ _ h1 h2 => ⟨h1, h2⟩⟩
  · have h4 : a.tmps[91]?.getD undef = .bool false := by have := (hJ.val' (j := 4) (s := 91) (by kernel_rfl) (hdep ⟨4, .guard⟩ (by simp) rfl)).1; simpa only [Z18, Array.getD_eq_getD_getElem?] using this
    have hPA : PA w0 tr r v := (hJ.val' (j := 4) (s := 91) (by kernel_rfl) (hdep ⟨4, .guard⟩ (by simp) rfl)).2 (by omega)
    have c0 := hPA.at_
    refine op1V_op ho (wanted_of (j := 4) (b := false) (s := 91) rfl (by kernel_rfl) h4) (fun B hn => opsH hn hgl (by first | rfl | kernel_rfl)) (fun τ p => ?_)
    clear hJ hdep ho
    go_simp
    exact ⟨v, rfl, _, rfl, ⟨rfl, paf hPA⟩, s18_upd (by omega) hS, fun _ _ _ h1 h2 => ⟨h1, h2⟩⟩
  · have h5 : a.tmps[92]?.getD undef = .pointer (some ⟨r, 0, none⟩) := by have := (hJ.val' (j := 5) (s := 92) (by kernel_rfl) (hdep ⟨5, .data⟩ (by simp) rfl)).1; simpa only [Z18, Array.getD_eq_getD_getElem?] using this
    have h4 : a.tmps[91]?.getD undef = .bool false := by have := (hJ.val' (j := 4) (s := 91) (by kernel_rfl) (hdep ⟨4, .guard⟩ (by simp) rfl)).1; simpa only [Z18, Array.getD_eq_getD_getElem?] using this
    have hPA : PA w0 tr r v := (hJ.val' (j := 4) (s := 91) (by kernel_rfl) (hdep ⟨4, .guard⟩ (by simp) rfl)).2 (by omega)
    refine op1V_op ho (wanted_of (j := 4) (b := false) (s := 91) rfl (by kernel_rfl) h4) (fun B hn => opsH hn hgl (by first | rfl | kernel_rfl)) (fun τ p => ?_)
    clear hJ hdep ho
    go_simp
    exact ⟨v, rfl, _, rfl, ⟨rfl, paf hPA⟩, s18_upd (by omega) hS, fun _ _ _ h1 h2 => ⟨h1, h2⟩⟩
  · have h6 : a.tmps[93]?.getD undef = .pointer (some ⟨r, 0, none⟩) := by have := (hJ.val' (j := 6) (s := 93) (by kernel_rfl) (hdep ⟨6, .data⟩ (by simp) rfl)).1; simpa only [Z18, Array.getD_eq_getD_getElem?] using this
    have h4 : a.tmps[91]?.getD undef = .bool false := by have := (hJ.val' (j := 4) (s := 91) (by kernel_rfl) (hdep ⟨4, .guard⟩ (by simp) rfl)).1; simpa only [Z18, Array.getD_eq_getD_getElem?] using this
    have hPA : PA w0 tr r v := (hJ.val' (j := 4) (s := 91) (by kernel_rfl) (hdep ⟨4, .guard⟩ (by simp) rfl)).2 (by omega)
    refine op1V_op ho (wanted_of (j := 4) (b := false) (s := 91) rfl (by kernel_rfl) h4) (fun B hn => opsH hn hgl (by first | rfl | kernel_rfl)) (fun τ p => ?_)
    clear hJ hdep ho
    go_simp
    exact ⟨v, rfl, _, rfl, ⟨rfl, paf hPA⟩, s18_upd (by omega) hS, fun _ _ _ h1 h2 => ⟨h1, h2⟩⟩
  · have h7 : a.tmps[94]?.getD undef = .pointer (some ⟨r, 0, none⟩) := by have := (hJ.val' (j := 7) (s := 94) (by kernel_rfl) (hdep ⟨7, .data⟩ (by simp) rfl)).1; simpa only [Z18, Array.getD_eq_getD_getElem?] using this
    have h4 : a.tmps[91]?.getD undef = .bool false := by have := (hJ.val' (j := 4) (s := 91) (by kernel_rfl) (hdep ⟨4, .guard⟩ (by simp) rfl)).1; simpa only [Z18, Array.getD_eq_getD_getElem?] using this
    have hPA : PA w0 tr r v := (hJ.val' (j := 4) (s := 91) (by kernel_rfl) (hdep ⟨4, .guard⟩ (by simp) rfl)).2 (by omega)
    obtain ⟨c0, c1, c2, c3, c4⟩ := hPA.rej hrej hne
    refine op1V_op ho (wanted_of (j := 4) (b := false) (s := 91) rfl (by kernel_rfl) h4) (fun B hn => opsH hn hgl (by first | rfl | kernel_rfl)) (fun τ p => ?_)
    clear hJ hdep ho
    unfold m4cells at *
    go_simp
    exact ⟨v, rfl, _, rfl, ⟨rfl, paf hPA⟩, s18_upd (by omega) hS, fun _ _ _ h1 h2 => ⟨h1, h2⟩⟩
  · have h4 : a.tmps[91]?.getD undef = .bool false := by have := (hJ.val' (j := 4) (s := 91) (by kernel_rfl) (hdep ⟨4, .guard⟩ (by simp) rfl)).1; simpa only [Z18, Array.getD_eq_getD_getElem?] using this
    have hPA : PA w0 tr r v := (hJ.val' (j := 4) (s := 91) (by kernel_rfl) (hdep ⟨4, .guard⟩ (by simp) rfl)).2 (by omega)
    refine op1V_op ho (wanted_of (j := 4) (b := false) (s := 91) rfl (by kernel_rfl) h4) (fun B hn => opsH hn hgl (by first | rfl | kernel_rfl)) (fun τ p => ?_)
    clear hJ hdep ho
    go_simp
    exact ⟨v, rfl, _, rfl, ⟨rfl, paf hPA⟩, s18_upd (by omega) hS, fun _ _ _ h1 h2 => ⟨h1, h2⟩⟩
  · have h4 : a.tmps[91]?.getD undef = .bool false := by have := (hJ.val' (j := 4) (s := 91) (by kernel_rfl) (hdep ⟨4, .guard⟩ (by simp) rfl)).1; simpa only [Z18, Array.getD_eq_getD_getElem?] using this
    have hPA : PA w0 tr r v := (hJ.val' (j := 4) (s := 91) (by kernel_rfl) (hdep ⟨4, .guard⟩ (by simp) rfl)).2 (by omega)
    refine op1V_op ho (wanted_of (j := 4) (b := false) (s := 91) rfl (by kernel_rfl) h4) (fun B hn => opsH hn hgl (by first | rfl | kernel_rfl)) (fun τ p => ?_)
    clear hJ hdep ho
    go_simp
    exact ⟨v, rfl, _, rfl, ⟨rfl, paf hPA⟩, s18_upd (by omega) hS, fun _ _ _ h1 h2 => ⟨h1, h2⟩⟩
  · have h9 : a.tmps[96]?.getD undef = .slice (some ⟨b3, 0, none⟩) m c3 := by have := (hJ.val' (j := 9) (s := 96) (by kernel_rfl) (hdep ⟨9, .data⟩ (by simp) rfl)).1; simpa only [Z18, Array.getD_eq_getD_getElem?] using this
    have h10 : a.tmps[97]?.getD undef = .int .i64 n := by have := (hJ.val' (j := 10) (s := 97) (by kernel_rfl) (hdep ⟨10, .data⟩ (by simp) rfl)).1; simpa only [Z18, Array.getD_eq_getD_getElem?] using this
    have h4 : a.tmps[91]?.getD undef = .bool false := by have := (hJ.val' (j := 4) (s := 91) (by kernel_rfl) (hdep ⟨4, .guard⟩ (by simp) rfl)).1; simpa only [Z18, Array.getD_eq_getD_getElem?] using this
    have hPA : PA w0 tr r v := (hJ.val' (j := 4) (s := 91) (by kernel_rfl) (hdep ⟨4, .guard⟩ (by simp) rfl)).2 (by omega)
    refine op1V_op ho (wanted_of (j := 4) (b := false) (s := 91) rfl (by kernel_rfl) h4) (fun B hn => opsH hn hgl (by first | rfl | kernel_rfl)) (fun τ p => ?_)
    clear hJ hdep ho
    go_simp
    exact ⟨v, rfl, _, rfl, ⟨rfl, paf hPA⟩, s18_upd (by omega) hS, fun _ _ _ h1 h2 => ⟨h1, h2⟩⟩
  · have h11 : a.tmps[98]?.getD undef = .pointer (some ⟨b3, n * 4, none⟩) := by have := (hJ.val' (j := 11) (s := 98) (by kernel_rfl) (hdep ⟨11, .data⟩ (by simp) rfl)).1; simpa only [Z18, Array.getD_eq_getD_getElem?] using this
    have h4 : a.tmps[91]?.getD undef = .bool false := by have := (hJ.val' (j := 4) (s := 91) (by kernel_rfl) (hdep ⟨4, .guard⟩ (by simp) rfl)).1; simpa only [Z18, Array.getD_eq_getD_getElem?] using this
    have hPA : PA w0 tr r v := (hJ.val' (j := 4) (s := 91) (by kernel_rfl) (hdep ⟨4, .guard⟩ (by simp) rfl)).2 (by omega)
    obtain ⟨d0, d1, d2, d3⟩ := hPA.row hrow hne3
    refine op1V_op ho (wanted_of (j := 4) (b := false) (s := 91) rfl (by kernel_rfl) h4) (fun B hn => opsH hn hgl (by first | rfl | kernel_rfl)) (fun τ p => ?_)
    clear hJ hdep ho
    unfold m4cells at *
    go_simp
    exact ⟨v, rfl, _, rfl, ⟨rfl, paf hPA⟩, s18_upd (by omega) hS, fun _ _ _ h1 h2 => ⟨h1, h2⟩⟩
  · have h8 : a.tmps[95]?.getD undef = .agg (m4cells x) := by have := (hJ.val' (j := 8) (s := 95) (by kernel_rfl) (hdep ⟨8, .data⟩ (by simp) rfl)).1; simpa only [Z18, Array.getD_eq_getD_getElem?] using this
    have h12 : a.tmps[99]?.getD undef = .agg (m4cells x) := by have := (hJ.val' (j := 12) (s := 99) (by kernel_rfl) (hdep ⟨12, .data⟩ (by simp) rfl)).1; simpa only [Z18, Array.getD_eq_getD_getElem?] using this
    have h4 : a.tmps[91]?.getD undef = .bool false := by have := (hJ.val' (j := 4) (s := 91) (by kernel_rfl) (hdep ⟨4, .guard⟩ (by simp) rfl)).1; simpa only [Z18, Array.getD_eq_getD_getElem?] using this
    have hPA : PA w0 tr r v := (hJ.val' (j := 4) (s := 91) (by kernel_rfl) (hdep ⟨4, .guard⟩ (by simp) rfl)).2 (by omega)
    have hg49 := fun u => run_g49 .neq (.tmp 95) (.tmp 99) x x u
    have he49 := fun u => run_e49 x x 9998 u
    have hm4 : m4eq x x = true := m4eq_iff.2 rfl
    refine op1V_op ho (wanted_of (j := 4) (b := false) (s := 91) rfl (by kernel_rfl) h4) (fun B hn => opsH hn hgl (by first | rfl | kernel_rfl)) (fun τ p => ?_)
    clear hJ hdep ho
    unfold m4cells at *
    go_simp
    exact ⟨v, rfl, _, rfl, ⟨rfl, paf hPA⟩, s18_upd (by omega) hS, fun _ _ _ h1 h2 => ⟨h1, h2⟩⟩
  · have h4 : a.tmps[91]?.getD undef = .bool false := by have := (hJ.val' (j := 4) (s := 91) (by kernel_rfl) (hdep ⟨4, .data⟩ (by simp) rfl)).1; simpa only [Z18, Array.getD_eq_getD_getElem?] using this
    have h13 : a.tmps[100]?.getD undef = .bool false := by have := (hJ.val' (j := 13) (s := 100) (by kernel_rfl) (hdep ⟨13, .data⟩ (by simp) rfl)).1; simpa only [Z18, Array.getD_eq_getD_getElem?] using this
    have hPA : PA w0 tr r v := (hJ.val' (j := 4) (s := 91) (by kernel_rfl) (hdep ⟨4, .data⟩ (by simp) rfl)).2 (by omega)
    refine op1V_op ho (by rfl) (fun B hn => opsH hn hgl (by first | rfl | kernel_rfl)) (fun τ p => ?_)
    clear hJ hdep ho
    go_simp
    exact ⟨v, rfl, _, rfl, ⟨rfl, paf hPA⟩, s18_upd (by omega) hS, fun _ _ _ h1 h2 => ⟨h1, h2⟩⟩
  · have h14 : a.tmps[101]?.getD undef = .bool false := by have := (hJ.val' (j := 14) (s := 101) (by kernel_rfl) (hdep ⟨14, .data⟩ (by simp) rfl)).1; simpa only [Z18, Array.getD_eq_getD_getElem?] using this
    have hPA : PA w0 tr r v := (hJ.val' (j := 14) (s := 101) (by kernel_rfl) (hdep ⟨14, .data⟩ (by simp) rfl)).2 (by omega)
    refine op1V_op ho (by rfl) (fun B hn => opsH hn hgl (by first | rfl | kernel_rfl)) (fun τ p => ?_)
    clear hJ hdep ho
    go_simp
    exact ⟨v, rfl, _, rfl, ⟨rfl, paf hPA⟩, s18_upd (by omega) hS, fun _ _ _ h1 h2 => ⟨h1, h2⟩⟩
  · have h15 : a.tmps[102]?.getD undef = .bool false := by have := (hJ.val' (j := 15) (s := 102) (by kernel_rfl) (hdep ⟨15, .guard⟩ (by simp) rfl)).1; simpa only [Z18, Array.getD_eq_getD_getElem?] using this
    have hPA : PA w0 tr r v := (hJ.val' (j := 15) (s := 102) (by kernel_rfl) (hdep ⟨15, .guard⟩ (by simp) rfl)).2 (by omega)
    refine op1V_op ho (wanted_of (j := 15) (b := false) (s := 102) rfl (by kernel_rfl) h15) (fun B hn => opsH hn hgl (by first | rfl | kernel_rfl)) (fun τ p => ?_)
    clear hJ hdep ho
    go_simp
    exact ⟨v, rfl, _, rfl, ⟨rfl, paf hPA⟩, s18_upd (by omega) hS, fun _ _ _ h1 h2 => ⟨h1, h2⟩⟩
  · have h15 : a.tmps[102]?.getD undef = .bool false := by have := (hJ.val' (j := 15) (s := 102) (by kernel_rfl) (hdep ⟨15, .guard⟩ (by simp) rfl)).1; simpa only [Z18, Array.getD_eq_getD_getElem?] using this
    have hPA : PA w0 tr r v := (hJ.val' (j := 15) (s := 102) (by kernel_rfl) (hdep ⟨15, .guard⟩ (by simp) rfl)).2 (by omega)
    refine op1V_op ho (wanted_of (j := 15) (b := false) (s := 102) rfl (by kernel_rfl) h15) (fun B hn => opsH hn hgl (by first | rfl | kernel_rfl)) (fun τ p => ?_)
    clear hJ hdep ho
    go_simp
    exact ⟨v, rfl, _, rfl, ⟨rfl, paf hPA⟩, s18_upd (by omega) hS, fun _ _ _ h1 h2 => ⟨h1, h2⟩⟩
  · have h17 : a.tmps[104]?.getD undef = .agg #[] := by have := (hJ.val' (j := 17) (s := 104) (by kernel_rfl) (hdep ⟨17, .data⟩ (by simp) rfl)).1; simpa only [Z18, Array.getD_eq_getD_getElem?] using this
    have h15 : a.tmps[102]?.getD undef = .bool false := by have := (hJ.val' (j := 15) (s := 102) (by kernel_rfl) (hdep ⟨15, .guard⟩ (by simp) rfl)).1; simpa only [Z18, Array.getD_eq_getD_getElem?] using this
    have hPA : PA w0 tr r v := (hJ.val' (j := 15) (s := 102) (by kernel_rfl) (hdep ⟨15, .guard⟩ (by simp) rfl)).2 (by omega)
    refine op1V_op ho (wanted_of (j := 15) (b := false) (s := 102) rfl (by kernel_rfl) h15) (fun B hn => opsH hn hgl (by first | rfl | kernel_rfl)) (fun τ p => ?_)
    clear hJ hdep ho
    go_simp
    exact ⟨v, rfl, _, rfl, ⟨rfl, paf hPA⟩, s18_upd (by omega) hS, fun _ _ _ h1 h2 => ⟨h1, h2⟩⟩
  · have h16 : a.tmps[103]?.getD undef = .iface 36 (.pointer (some ⟨r, 0, none⟩)) := by have := (hJ.val' (j := 16) (s := 103) (by kernel_rfl) (hdep ⟨16, .data⟩ (by simp) rfl)).1; simpa only [Z18, Array.getD_eq_getD_getElem?] using this
    have h18 : a.tmps[105]?.getD undef = refV := by have := (hJ.val' (j := 18) (s := 105) (by kernel_rfl) (hdep ⟨18, .data⟩ (by simp) rfl)).1; simpa only [Z18, Array.getD_eq_getD_getElem?] using this
    have h15 : a.tmps[102]?.getD undef = .bool false := by have := (hJ.val' (j := 15) (s := 102) (by kernel_rfl) (hdep ⟨15, .guard⟩ (by simp) rfl)).1; simpa only [Z18, Array.getD_eq_getD_getElem?] using this
    have hPA : PA w0 tr r v := (hJ.val' (j := 15) (s := 102) (by kernel_rfl) (hdep ⟨15, .guard⟩ (by simp) rfl)).2 (by omega)
    intro rest Q hK
    refine opsV_enter (R := ?R19) ho (wanted_of (j := 15) (b := false) (s := 102) rfl (by kernel_rfl) h15) (run_callV rfl rfl Tryz.func13 (by kernel_rfl) rfl) (pf_call hgl (by rfl)) ?hc19 ?hn19
    case hc19 => (rw [show ((#[] : Array Value) ++ (#[Operand.tmp 103, Operand.tmp 105] : Array Operand).map a.eval ++ #[]) = #[.iface 36 (.pointer (some ⟨r, 0, none⟩)), refV] by simp [Act.eval, h16, h18]]; exact Is_hit hgl h6 r hgr (hPA.cell hrej.c4 hne))
    rintro F2 z v' ⟨rfl, rfl, rfl⟩
    exact hK _ _ ⟨_, rfl, fun _ => ⟨rfl, paf hPA⟩, s18_upd (by omega) hS, fun _ _ _ h => h⟩
  · have h19 : a.tmps[106]?.getD undef = .bool true := by have := (hJ.val' (j := 19) (s := 106) (by kernel_rfl) (hdep ⟨19, .data⟩ (by simp) rfl)).1; simpa only [Z18, Array.getD_eq_getD_getElem?] using this
    have h15 : a.tmps[102]?.getD undef = .bool false := by have := (hJ.val' (j := 15) (s := 102) (by kernel_rfl) (hdep ⟨15, .guard⟩ (by simp) rfl)).1; simpa only [Z18, Array.getD_eq_getD_getElem?] using this
    have hPA : PA w0 tr r v := (hJ.val' (j := 15) (s := 102) (by kernel_rfl) (hdep ⟨15, .guard⟩ (by simp) rfl)).2 (by omega)
    refine op1V_op ho (wanted_of (j := 15) (b := false) (s := 102) rfl (by kernel_rfl) h15) (fun B hn => opsH hn hgl (by first | rfl | kernel_rfl)) (fun τ p => ?_)
    clear hJ hdep ho
    go_simp
    exact ⟨v, rfl, _, rfl, ⟨rfl, paf hPA⟩, s18_upd (by omega) hS, fun _ _ _ h1 h2 => ⟨h1, h2⟩⟩
  · have h15 : a.tmps[102]?.getD undef = .bool false := by have := (hJ.val' (j := 15) (s := 102) (by kernel_rfl) (hdep ⟨15, .data⟩ (by simp) rfl)).1; simpa only [Z18, Array.getD_eq_getD_getElem?] using this
    have h20 : a.tmps[107]?.getD undef = .bool false := by have := (hJ.val' (j := 20) (s := 107) (by kernel_rfl) (hdep ⟨20, .data⟩ (by simp) rfl)).1; simpa only [Z18, Array.getD_eq_getD_getElem?] using this
    have hPA : PA w0 tr r v := (hJ.val' (j := 15) (s := 102) (by kernel_rfl) (hdep ⟨15, .data⟩ (by simp) rfl)).2 (by omega)
    refine op1V_op ho (by rfl) (fun B hn => opsH hn hgl (by first | rfl | kernel_rfl)) (fun τ p => ?_)
    clear hJ hdep ho
    go_simp
    exact ⟨v, rfl, _, rfl, ⟨rfl, paf hPA⟩, s18_upd (by omega) hS, fun _ _ _ h1 h2 => ⟨h1, h2⟩⟩
  · have h21 : a.tmps[108]?.getD undef = .bool false := by have := (hJ.val' (j := 21) (s := 108) (by kernel_rfl) (hdep ⟨21, .data⟩ (by simp) rfl)).1; simpa only [Z18, Array.getD_eq_getD_getElem?] using this
    have hPA : PA w0 tr r v := (hJ.val' (j := 21) (s := 108) (by kernel_rfl) (hdep ⟨21, .data⟩ (by simp) rfl)).2 (by omega)
    refine op1V_op ho (by rfl) (fun B hn => opsH hn hgl (by first | rfl | kernel_rfl)) (fun τ p => ?_)
    clear hJ hdep ho
    go_simp
    exact ⟨v, rfl, _, rfl, ⟨rfl, paf hPA⟩, s18_upd (by omega) hS, fun _ _ _ h1 h2 => ⟨h1, h2⟩⟩
  · have h22 : a.tmps[109]?.getD undef = .bool false := by have := (hJ.val' (j := 22) (s := 109) (by kernel_rfl) (hdep ⟨22, .guard⟩ (by simp) rfl)).1; simpa only [Z18, Array.getD_eq_getD_getElem?] using this
    have hPA : PA w0 tr r v := (hJ.val' (j := 22) (s := 109) (by kernel_rfl) (hdep ⟨22, .guard⟩ (by simp) rfl)).2 (by omega)
    have c0 := hPA.at_
    refine op1V_op ho (wanted_of (j := 22) (b := false) (s := 109) rfl (by kernel_rfl) h22) (fun B hn => opsH hn hgl (by first | rfl | kernel_rfl)) (fun τ p => ?_)
    clear hJ hdep ho
    go_simp
    exact ⟨v, rfl, _, rfl, ⟨rfl, paf hPA⟩, s18_upd (by omega) hS, fun _ _ _ h1 h2 => ⟨h1, h2⟩⟩
  · have h23 : a.tmps[110]?.getD undef = .pointer (some ⟨r, 0, none⟩) := by have := (hJ.val' (j := 23) (s := 110) (by kernel_rfl) (hdep ⟨23, .data⟩ (by simp) rfl)).1; simpa only [Z18, Array.getD_eq_getD_getElem?] using this
    have h22 : a.tmps[109]?.getD undef = .bool false := by have := (hJ.val' (j := 22) (s := 109) (by kernel_rfl) (hdep ⟨22, .guard⟩ (by simp) rfl)).1; simpa only [Z18, Array.getD_eq_getD_getElem?] using this
    have hPA : PA w0 tr r v := (hJ.val' (j := 22) (s := 109) (by kernel_rfl) (hdep ⟨22, .guard⟩ (by simp) rfl)).2 (by omega)
    intro rest Q hK
    refine opsV_enter (R := ?R24) ho (wanted_of (j := 22) (b := false) (s := 109) rfl (by kernel_rfl) h22) (run_callV rfl rfl Tryz.func14 (by kernel_rfl) rfl) (pf_call hgl (by rfl)) ?hc24 ?hn24
    case hc24 => (rw [show ((#[] : Array Value) ++ (#[Operand.tmp 110] : Array Operand).map a.eval ++ #[]) = #[.pointer (some ⟨r, 0, none⟩)] by simp [Act.eval, h23]]; exact rejErr_callsV hgl h6 r hgr x u HXS.out hu hxm (hPA.rej hrej hne) (fun w hb => htab w (hPA.bl hb)))
    rintro F2 z v' ⟨rfl, hz, hb⟩
    exact hK _ _ ⟨_, rfl, fun _ => ⟨hz, paf (hPA.bl hb)⟩, s18_no hS hPA (by omega), fun _ _ _ h => ⟨h.1, fun h2 => (h.2 h2).bl hb⟩⟩
  · obtain ⟨s24, h24, p24⟩ : ∃ s : ByteArray, a.tmps[111]?.getD undef = .string s ∧ 0 < s.size := by have := (hJ.val' (j := 24) (s := 111) (by kernel_rfl) (hdep ⟨24, .data⟩ (by simp) rfl)).1; simpa only [Z18, Array.getD_eq_getD_getElem?] using this
    have h22 : a.tmps[109]?.getD undef = .bool false := by have := (hJ.val' (j := 22) (s := 109) (by kernel_rfl) (hdep ⟨22, .guard⟩ (by simp) rfl)).1; simpa only [Z18, Array.getD_eq_getD_getElem?] using this
    have hPA : PA w0 tr r v := (hJ.val' (j := 22) (s := 109) (by kernel_rfl) (hdep ⟨22, .guard⟩ (by simp) rfl)).2 (by omega)
    have hs0 : (s24 == (⟨#[]⟩ : ByteArray)) = false := by (rw [Bool.eq_false_iff]; intro hb; simp only [Go.MapKept.bytes_beq] at hb; rw [hb] at p24; exact absurd p24 (by decide))
    have hs1 : s24.toList.isEmpty = false := ba_full p24
    refine op1V_op ho (wanted_of (j := 22) (b := false) (s := 109) rfl (by kernel_rfl) h22) (fun B hn => opsH hn hgl (by first | rfl | kernel_rfl)) (fun τ p => ?_)
    clear hJ hdep ho
    go_simp
    exact ⟨v, rfl, _, rfl, ⟨rfl, paf hPA⟩, s18_upd (by omega) hS, fun _ _ _ h1 h2 => ⟨h1, h2⟩⟩
  · have h22 : a.tmps[109]?.getD undef = .bool false := by have := (hJ.val' (j := 22) (s := 109) (by kernel_rfl) (hdep ⟨22, .data⟩ (by simp) rfl)).1; simpa only [Z18, Array.getD_eq_getD_getElem?] using this
    have h25 : a.tmps[112]?.getD undef = .bool false := by have := (hJ.val' (j := 25) (s := 112) (by kernel_rfl) (hdep ⟨25, .data⟩ (by simp) rfl)).1; simpa only [Z18, Array.getD_eq_getD_getElem?] using this
    have hPA : PA w0 tr r v := (hJ.val' (j := 22) (s := 109) (by kernel_rfl) (hdep ⟨22, .data⟩ (by simp) rfl)).2 (by omega)
    refine op1V_op ho (by rfl) (fun B hn => opsH hn hgl (by first | rfl | kernel_rfl)) (fun τ p => ?_)
    clear hJ hdep ho
    go_simp
    exact ⟨v, rfl, _, rfl, ⟨rfl, paf hPA⟩, s18_upd (by omega) hS, fun _ _ _ h1 h2 => ⟨h1, h2⟩⟩
  · have h26 : a.tmps[113]?.getD undef = .bool false := by have := (hJ.val' (j := 26) (s := 113) (by kernel_rfl) (hdep ⟨26, .data⟩ (by simp) rfl)).1; simpa only [Z18, Array.getD_eq_getD_getElem?] using this
    have hPA : PA w0 tr r v := (hJ.val' (j := 26) (s := 113) (by kernel_rfl) (hdep ⟨26, .data⟩ (by simp) rfl)).2 (by omega)
    refine op1V_op ho (by rfl) (fun B hn => opsH hn hgl (by first | rfl | kernel_rfl)) (fun τ p => ?_)
    clear hJ hdep ho
    go_simp
    exact ⟨v, rfl, _, rfl, ⟨rfl, paf hPA⟩, s18_upd (by omega) hS, fun _ _ _ h1 h2 => ⟨h1, h2⟩⟩
  · have h27 : a.tmps[114]?.getD undef = .bool false := by have := (hJ.val' (j := 27) (s := 114) (by kernel_rfl) (hdep ⟨27, .guard⟩ (by simp) rfl)).1; simpa only [Z18, Array.getD_eq_getD_getElem?] using this
    have hPA : PA w0 tr r v := (hJ.val' (j := 27) (s := 114) (by kernel_rfl) (hdep ⟨27, .guard⟩ (by simp) rfl)).2 (by omega)
    refine op1V_op ho (wanted_of (j := 27) (b := false) (s := 114) rfl (by kernel_rfl) h27) (fun B hn => opsH hn hgl (by first | rfl | kernel_rfl)) (fun τ p => ?_)
    clear hJ hdep ho
    go_simp
    exact ⟨v, rfl, _, rfl, ⟨rfl, paf hPA⟩, s18_upd (by omega) hS, fun _ _ _ h1 h2 => ⟨h1, h2⟩⟩
  · have h27 : a.tmps[114]?.getD undef = .bool false := by have := (hJ.val' (j := 27) (s := 114) (by kernel_rfl) (hdep ⟨27, .guard⟩ (by simp) rfl)).1; simpa only [Z18, Array.getD_eq_getD_getElem?] using this
    have hPA : PA w0 tr r v := (hJ.val' (j := 27) (s := 114) (by kernel_rfl) (hdep ⟨27, .guard⟩ (by simp) rfl)).2 (by omega)
    refine op1V_op ho (wanted_of (j := 27) (b := false) (s := 114) rfl (by kernel_rfl) h27) (fun B hn => opsH hn hgl (by first | rfl | kernel_rfl)) (fun τ p => ?_)
    clear hJ hdep ho
    go_simp
    exact ⟨v, rfl, _, rfl, ⟨rfl, paf hPA⟩, s18_upd (by omega) hS, fun _ _ _ h1 h2 => ⟨h1, h2⟩⟩
  · have h28 : a.tmps[115]?.getD undef = .iface 36 (.pointer (some ⟨r, 0, none⟩)) := by have := (hJ.val' (j := 28) (s := 115) (by kernel_rfl) (hdep ⟨28, .data⟩ (by simp) rfl)).1; simpa only [Z18, Array.getD_eq_getD_getElem?] using this
    have h29 : a.tmps[116]?.getD undef = .iface 39 (.pointer (some ⟨ti, 0, none⟩)) := by have := (hJ.val' (j := 29) (s := 116) (by kernel_rfl) (hdep ⟨29, .data⟩ (by simp) rfl)).1; simpa only [Z18, Array.getD_eq_getD_getElem?] using this
    have h27 : a.tmps[114]?.getD undef = .bool false := by have := (hJ.val' (j := 27) (s := 114) (by kernel_rfl) (hdep ⟨27, .guard⟩ (by simp) rfl)).1; simpa only [Z18, Array.getD_eq_getD_getElem?] using this
    have hPA : PA w0 tr r v := (hJ.val' (j := 27) (s := 114) (by kernel_rfl) (hdep ⟨27, .guard⟩ (by simp) rfl)).2 (by omega)
    intro rest Q hK
    refine opsV_enter (R := ?R30) ho (wanted_of (j := 27) (b := false) (s := 114) rfl (by kernel_rfl) h27) (run_callV rfl rfl Tryz.func9 (by kernel_rfl) rfl) (pf_call hgl (by rfl)) ?hc30 ?hn30
    case hc30 => (rw [show ((#[] : Array Value) ++ (#[Operand.tmp 115, Operand.tmp 116] : Array Operand).map a.eval ++ #[]) = #[.iface 36 (.pointer (some ⟨r, 0, none⟩)), .iface 39 (.pointer (some ⟨ti, 0, none⟩))] by simp [Act.eval, h28, h29]]; exact hAsM v hPA)
    rintro F2 z v' ⟨rfl, rfl, hb⟩
    exact hK _ _ ⟨_, rfl, fun _ => ⟨rfl, paf (hPA.bl hb)⟩, s18_no hS hPA (by omega), fun _ _ _ h => ⟨h.1, fun h2 => (h.2 h2).bl hb⟩⟩
  · have h27 : a.tmps[114]?.getD undef = .bool false := by have := (hJ.val' (j := 27) (s := 114) (by kernel_rfl) (hdep ⟨27, .data⟩ (by simp) rfl)).1; simpa only [Z18, Array.getD_eq_getD_getElem?] using this
    have h30 : a.tmps[117]?.getD undef = .bool false := by have := (hJ.val' (j := 30) (s := 117) (by kernel_rfl) (hdep ⟨30, .data⟩ (by simp) rfl)).1; simpa only [Z18, Array.getD_eq_getD_getElem?] using this
    have hPA : PA w0 tr r v := (hJ.val' (j := 27) (s := 114) (by kernel_rfl) (hdep ⟨27, .data⟩ (by simp) rfl)).2 (by omega)
    refine op1V_op ho (by rfl) (fun B hn => opsH hn hgl (by first | rfl | kernel_rfl)) (fun τ p => ?_)
    clear hJ hdep ho
    go_simp
    exact ⟨v, rfl, _, rfl, ⟨rfl, paf hPA⟩, s18_upd (by omega) hS, fun _ _ _ h1 h2 => ⟨h1, h2⟩⟩
  -- END
end
end Go.Proofs.YtmmjlngbiilagaaGreatDoor

/-
  GOROUTINE 0's WALK: the law's callees, as the law calls them.
-/
namespace Go.Proofs.YtmmjlngbiilagaaGreatDoor
open Go Go.Conc Go.Shelf Go.RowKit Go.Lib Go.Sort

section
variable {Gd : GB} {F : Nat → Prop} {v : World}
theorem callsV_args {f : FuncId} {args : Array Value} {R : (Nat → Prop) → Value → World → Prop} (h : (∀ x ∈ args, PFg Gd x) → CallsV Vh Tryz.prog Gd f args F v R) : CallsV Vh Tryz.prog Gd f args F v R := fun Post c cs ha hK => h ha Post c cs ha hK
theorem callsV_mono {f : FuncId} {args : Array Value} {R R' : (Nat → Prop) → Value → World → Prop} (h : CallsV Vh Tryz.prog Gd f args F v R) (hr : ∀ F' z v', R F' z v' → R' F' z v') : CallsV Vh Tryz.prog Gd f args F v R' := fun Post c cs ha hK => h Post c cs ha fun F' z v' hz hR => hK F' z v' hz (hr F' z v' hR)
theorem own_go (hgl : ∀ g, glH g = true → Gd g) {A : Option Addr} {n cap : Nat} {L : List Strm} (hS : SRow v v.heap.size A L) (hn : L.length = n) (hf : Fits L) (hz : ∀ x ∈ L, x.ms.length ≤ 4000000000000) :
    CallsV Vh Tryz.prog Gd 4 #[.slice A n cap] F v fun F' z u => F' = F ∧ ∃ val, z = .tuple #[val, .bool true] ∧ OwnS u v.heap.size val L ∧ Bl v.heap.size v u :=
  callsV_calls (fun B hn => pruneH hn hgl) Tryz.func4 (Vh.fn Tryz.func4 (by kernel_rfl)) rfl fun τ p =>
    (own_calls A cap L (tp v τ p) hS hz hf n hn).mono fun e w' ⟨val, h1, h2, h3⟩ => ⟨_, h1, val, rfl, h2, Bl.untp h3⟩
theorem own_no (hgl : ∀ g, glH g = true → Gd g) {A : Option Addr} {n cap : Nat} {L : List Strm} (hS : SRow v v.heap.size A L) (hn : L.length = n) (hf : ¬ Fits L) (hz : ∀ x ∈ L, x.ms.length ≤ 4000000000000) (hnm : n ≤ 4000000000000) :
    CallsV Vh Tryz.prog Gd 4 #[.slice A n cap] F v fun F' z u => F' = F ∧ z = .tuple #[.slice none 0 0, .bool false] ∧ Bl v.heap.size v u :=
  callsV_calls (fun B hn => pruneH hn hgl) Tryz.func4 (Vh.fn Tryz.func4 (by kernel_rfl)) rfl fun τ p =>
    (own_not A cap L (tp v τ p) hS hz hf n hn hnm).mono fun e w' ⟨h1, h3⟩ => ⟨_, h1, rfl, Bl.untp h3⟩
theorem chk_go (hgl : ∀ g, glH g = true → Gd g) {A : Option Addr} {n cap : Nat} {L : List Strm} (hS : SRow v v.heap.size A L) (hn : L.length = n) (hf : Fits L) (hz : ∀ x ∈ L, x.mem.size ≤ maxLen) :
    CallsV Vh Tryz.prog Gd 8 #[.slice A n cap] F v fun F' z u => F' = F ∧ z = .int .i64 (allE L) ∧ Bl v.heap.size v u :=
  callsV_calls (fun B hn => pruneH hn hgl) Tryz.func8 (Vh.fn Tryz.func8 (by kernel_rfl)) rfl fun τ p =>
    (checkAll50_calls A n cap L (tp v τ p) hS hn hf hz).mono fun e w' ⟨h1, h3⟩ => ⟨_, h1, rfl, Bl.untp h3⟩
theorem mrg_go (hgl : ∀ g, glH g = true → Gd g) {A : Option Addr} {n cap : Nat} {L : List Strm} (hS : SRow v v.heap.size A L) (hn : L.length = n) (hf : Fits L) (hz : ∀ x ∈ L, ∀ y ∈ x.ms, y.m.size ≤ maxLen) :
    CallsV Vh Tryz.prog Gd 11 #[.slice A n cap] F v fun F' z u => F' = F ∧ OutR u v.heap.size z (rmg (L.flatMap fun x => x.ms)) ∧ Bl v.heap.size v u :=
  callsV_calls (fun B hn => pruneH hn hgl) Tryz.func11 (Vh.fn Tryz.func11 (by kernel_rfl)) rfl fun τ p =>
    (merge50_calls A n cap L (tp v τ p) hS hn hf hz).mono fun e w' ⟨z, h1, h2, h3⟩ => ⟨_, h1, h2, Bl.untp h3⟩
theorem inv_go (hgl : ∀ g, glH g = true → Gd g) {r u : Nat} (hu : u ≤ 100000) (hc : v.cell? ⟨r, 0, none⟩ = some (.int .i64 u)) (htab : Lib.TabIs Vh v "internal/strconv.uint64pow10" .u64 Lib.pow10Tab) :
    CallsV Vh Tryz.prog Gd 10 #[.pointer (some ⟨r, 0, none⟩)] F v fun F' z u => F' = F ∧ (∃ s : ByteArray, z = .string s ∧ 0 < s.size) ∧ Bl v.heap.size v u :=
  callsV_calls (fun B hn => pruneH hn hgl) Tryz.func10 (Vh.fn Tryz.func10 (by kernel_rfl)) rfl fun τ p =>
    (invErr_calls ⟨r, 0, none⟩ u hu (tp v τ p) hc htab).mono fun e w' ⟨s, h1, h2, h3, h4⟩ => ⟨_, h1, ⟨s, rfl, Nat.pos_of_ne_zero fun h0 => h2 (by
      obtain ⟨⟨l⟩⟩ := s
      have h5 : l.length = 0 := h0
      rw [List.length_eq_zero_iff.1 h5])⟩, Bl.untp h4⟩
theorem same_go (hgl : ∀ g, glH g = true → Gd g) {A B : Option Addr} {c c' n : Nat} {l : List M4} (hA : MRow v v.heap.size A l) (hB : MRow v v.heap.size B l) (hn : l.length = n) (hn3 : n ≤ 300) :
    CallsV Vh Tryz.prog Gd 12 #[.slice A n c, .slice B n c'] F v fun F' z u => F' = F ∧ z = .bool true ∧ Bl v.heap.size v u :=
  callsV_calls (fun B hn => pruneH hn hgl) Tryz.func12 (Vh.fn Tryz.func12 (by kernel_rfl)) rfl fun τ p =>
    (same_yes A B c c' n l (tp v τ p) hA hB hn hn3).mono fun e w' ⟨h1, m, h2⟩ => ⟨_, h1, rfl, by subst h2; exact ⟨rfl, rfl, Nat.le_refl _, fun _ _ => rfl⟩⟩
theorem pa_of {t r : Nat} {v2 v' : World} {T : TypeId} (hb : v.heap[t]? = some (.cells #[.pointer none] T (0, 0))) (hbl : Bl v.heap.size v v2) (hs : SetAt ⟨t, 0, none⟩ (.pointer (some ⟨r, 0, none⟩)) v2 v') : PA v t r v' := by
  have hc := cell_of_row v t 0 _ _ _ hb
  have ht : t < v.heap.size := heap_lt hb
  exact ⟨hs.os.trans hbl.os, hs.output.trans hbl.output, Nat.le_trans hbl.size hs.size, fun b hl hn => (hs.block b (Nat.lt_of_lt_of_le hl hbl.size) hn).trans (hbl.block b hl), hs.cell (bl_cell hbl hc), hc⟩
theorem gd_ifp {t : Nat} {a : Addr} (h : PFg Gd (.iface t (.pointer (some a)))) : Gd a.block := by
  rcases h with h | h
  · exact h.elim
  · cases h with
    | iface _ h => cases h with
      | ptr h => exact h
theorem asI_go (hgl : ∀ g, glH g = true → Gd g) (h6 : Gd 6) {r t : Nat} {T : TypeId} (hE : ErrT v) (hb : v.heap[t]? = some (.cells #[.pointer none] T (0, 0))) :
    CallsV Vh Tryz.prog Gd 9 #[.iface 35 (.pointer (some ⟨r, 0, none⟩)), .iface 39 (.pointer (some ⟨t, 0, none⟩))] F v fun F' z v' => F' = F ∧ z = .bool true ∧ PA v t r v' :=
  callsV_args fun ha => by
    have hr : Gd r := gd_ifp (ha (.iface 35 (.pointer (some ⟨r, 0, none⟩))) (by simp))
    have ht : Gd t := gd_ifp (ha (.iface 39 (.pointer (some ⟨t, 0, none⟩))) (by simp))
    refine callsV_mono (as_genII hgl h6 ⟨r, 0, none⟩ ⟨t, 0, none⟩ hr ht hE true (fun v2 v' => SetAt ⟨t, 0, none⟩ (.pointer (some ⟨r, 0, none⟩)) v2 v') fun v2 a hbl hca hga => ?_) fun F' z v' ⟨h1, h2, v2, h3, h4⟩ => ⟨h1, h2, pa_of hb h3 h4⟩
    have hb2 : v2.heap[t]? = some (.cells #[.pointer none] T (0, 0)) := (hbl.block t (heap_lt hb)).trans hb
    exact as_in35 hgl h6 ⟨r, 0, none⟩ ⟨t, 0, none⟩ (.pointer none) a hr ht hga hca (cell_of_row v2 t 0 _ _ _ hb2) (by simp [World.frozen?, hb2])
theorem asR_go (hgl : ∀ g, glH g = true → Gd g) (h6 : Gd 6) {r t : Nat} {T : TypeId} (hE : ErrT v) (hb : v.heap[t]? = some (.cells #[.pointer none] T (0, 0))) :
    CallsV Vh Tryz.prog Gd 9 #[.iface 36 (.pointer (some ⟨r, 0, none⟩)), .iface 47 (.pointer (some ⟨t, 0, none⟩))] F v fun F' z v' => F' = F ∧ z = .bool true ∧ PA v t r v' :=
  callsV_args fun ha => by
    have hr : Gd r := gd_ifp (ha (.iface 36 (.pointer (some ⟨r, 0, none⟩))) (by simp))
    have ht : Gd t := gd_ifp (ha (.iface 47 (.pointer (some ⟨t, 0, none⟩))) (by simp))
    refine callsV_mono (as_genRR hgl h6 ⟨r, 0, none⟩ ⟨t, 0, none⟩ hr ht hE true (fun v2 v' => SetAt ⟨t, 0, none⟩ (.pointer (some ⟨r, 0, none⟩)) v2 v') fun v2 a hbl hca hga => ?_) fun F' z v' ⟨h1, h2, v2, h3, h4⟩ => ⟨h1, h2, pa_of hb h3 h4⟩
    have hb2 : v2.heap[t]? = some (.cells #[.pointer none] T (0, 0)) := (hbl.block t (heap_lt hb)).trans hb
    exact as_in36 hgl h6 ⟨r, 0, none⟩ ⟨t, 0, none⟩ (.pointer none) a hr ht hga hca (cell_of_row v2 t 0 _ _ _ hb2) (by simp [World.frozen?, hb2])
theorem asM_go (hgl : ∀ g, glH g = true → Gd g) (h6 : Gd 6) {r t : Nat} (hE : ErrT v) (hc : v.cell? ⟨r, 4, none⟩ = some refV) :
    CallsV Vh Tryz.prog Gd 9 #[.iface 36 (.pointer (some ⟨r, 0, none⟩)), .iface 39 (.pointer (some ⟨t, 0, none⟩))] F v fun F' z v' => F' = F ∧ z = .bool false ∧ Bl v.heap.size v v' :=
  callsV_args fun ha => by
    have hr : Gd r := gd_ifp (ha (.iface 36 (.pointer (some ⟨r, 0, none⟩))) (by simp))
    have ht : Gd t := gd_ifp (ha (.iface 39 (.pointer (some ⟨t, 0, none⟩))) (by simp))
    exact callsV_mono (as_genIR hgl h6 ⟨r, 0, none⟩ ⟨t, 0, none⟩ hr ht hE false (fun v2 v' => Bl v2.heap.size v2 v') fun v2 a hbl hca hga => as_miss hgl h6 r hr ⟨t, 0, none⟩ a (bl_cell hbl hc)) fun F' z v' ⟨h1, h2, v2, h3, h4⟩ => ⟨h1, h2, h3.trans (h4.mono h3.size)⟩
end
end Go.Proofs.YtmmjlngbiilagaaGreatDoor

/-
  GOROUTINE 0's WALK: GatewayEach.
-/
namespace Go.Proofs.YtmmjlngbiilagaaGreatDoor
open Go Go.Conc Go.Shelf Go.RowKit Go.Lib Go.Sort

/-- What the call may lean on. -/
structure GeIn (Gd : GB) (F : Nat → Prop) (A : Option Addr) (n : Nat) (L : List Strm) (sb so kc : Nat) (v : World) : Prop where
  gl : ∀ g, glH g = true → Gd g
  g6 : Gd 6
  gF : ∀ b, Gd b
  lt : ∀ b, F b → b < v.heap.size
  emp : Emp F v
  low : ∀ b, b ≤ 6 → ¬ F b
  row : SRow v v.heap.size A L
  len : L.length = n
  kinds : KindsAt sb so kc v
  errT : ErrT v
  tab : Lib.TabIs Vh v "internal/strconv.uint64pow10" .u64 Lib.pow10Tab
  z1 : ∀ x ∈ L, x.ms.length ≤ 4000000000000
  z2 : n ≤ 4000000000000
  z3 : ∀ x ∈ L, x.mem.size ≤ maxLen
  z4 : ∀ x ∈ L, ∀ y ∈ x.ms, y.m.size ≤ maxLen
def GeR (F : Nat → Prop) (v : World) (F' : Nat → Prop) (z : Value) (v' : World) : Prop := z = .bool true ∧ Kept F v v' ∧ ∀ b, b < v.heap.size → F' b → F b
section
variable {Gd : GB} {F : Nat → Prop} {v : World} {A : Option Addr} {n cap : Nat} {L : List Strm} {sb so kc : Nat}
theorem Kept.refl' : Kept F v v := ⟨rfl, rfl, Nat.le_refl _, fun _ _ _ => rfl⟩
theorem GeIn.tab' (h : GeIn Gd F A n L sb so kc v) {u : World} (hk : Kept F v u) : Lib.TabIs Vh u "internal/strconv.uint64pow10" .u64 Lib.pow10Tab := by
  refine tab_keep ?_ h.tab
  have h3 : (3 : Nat) < v.heap.size := World.block_lt_of_cell? v ⟨3, 4 + 0, none⟩ (h.kinds.kinds 0 _ rfl)
  exact hk.block 2 (by omega) (h.low 2 (by omega))
set_option maxRecDepth 100000 in
set_option maxHeartbeats 8000000 in
theorem ge_no (h : GeIn Gd F A n L sb so kc v) (q : Nat) (hf : ¬ Fits L) : TopV Vh Tryz.prog Gd 3 #[.slice A n cap, .int .u8 q] F v (GeR F v) := by
  refine topV_body Tryz.func3 (by kernel_rfl) (by rfl) (by kernel_rfl) ?_
  simp only [Tryz.ntmps3]
  (simp only [List.size_toArray, List.length_cons, List.length_nil, Nat.reduceAdd, Nat.reduceSub, Array.replicate_succ, Array.replicate_zero, List.push_toArray, List.append_toArray, List.nil_append, List.cons_append])
  have hgl := h.gl
  have hown := own_no (F := F) (cap := cap) h.gl h.row h.len hf h.z1 h.z2
  have HH := Lib.hid h
  clear h hf
  (have tpc := tpC; have tpf := tpF; have tpa := tpA; have tps := tpS; have tph := tpH)
  (refine wpV_seq ?_)
  (refine wpV_region ?_; simp only [List.size_toArray, List.length_cons, List.length_nil, Nat.reduceAdd, Nat.zero_add, List.range, List.range.loop])
  (refine opsV_op_k rfl (by rfl) (fun B hn => opsH hn hgl (by first | rfl | kernel_rfl)) ?_; intro τ p K hK; go_simp; refine hK _ _ ?_; clear hK K p τ; (try walk_nrm))
  (refine opsV_nil ?_; (try dsimp only [thenV_normal, inBV_normal]))
  (refine wpV_seq ?_)
  (refine wpV_region ?_; simp only [List.size_toArray, List.length_cons, List.length_nil, Nat.reduceAdd, Nat.zero_add, List.range, List.range.loop])
  (refine opsV_op_k rfl (by rfl) (fun B hn => opsH hn hgl (by first | rfl | kernel_rfl)) ?_; intro τ p K hK; go_simp; refine hK _ _ ?_; clear hK K p τ; (try walk_nrm))
  (refine opsV_enter (R := ?R10) rfl (by rfl) (run_callV rfl rfl Tryz.func4 (by kernel_rfl) rfl) (pf_call hgl (by rfl)) ?hc10 ?hn10; case hc10 => (walk_nrm; exact hown))
  rintro F1 z u1 ⟨rfl, rfl, hb1⟩
  have hk1 : Kept F1 v u1 := Kept.refl'.bl hb1
  have hkn := known_callsV (Gd := Gd) (F := F1) (v := u1) HH.out.gl (fun b _ => HH.out.gF b) (hk1.kinds HH.out.emp HH.out.kinds)
  have HK := Lib.hid hk1
  clear hb1 hk1 hown
  walk_nrm
  (refine opsV_op_k rfl (by rfl) (fun B hn => opsH hn hgl (by first | rfl | kernel_rfl)) ?_; intro τ p K hK; go_simp; refine hK _ _ ?_; clear hK K p τ; (try walk_nrm))
  (refine opsV_op_k rfl (by rfl) (fun B hn => opsH hn hgl (by first | rfl | kernel_rfl)) ?_; intro τ p K hK; go_simp; refine hK _ _ ?_; clear hK K p τ; (try walk_nrm))
  (refine opsV_op_k rfl (by rfl) (fun B hn => opsH hn hgl (by first | rfl | kernel_rfl)) ?_; intro τ p K hK; go_simp; refine hK _ _ ?_; clear hK K p τ; (try walk_nrm))
  (refine opsV_op_k rfl (by rfl) (fun B hn => opsH hn hgl (by first | rfl | kernel_rfl)) ?_; intro τ p K hK; go_simp; refine hK _ _ ?_; clear hK K p τ; (try walk_nrm))
  (refine opsV_op_k rfl (by rfl) (fun B hn => opsH hn hgl (by first | rfl | kernel_rfl)) ?_; intro τ p K hK; go_simp; refine hK _ _ ?_; clear hK K p τ; (try walk_nrm))
  (refine opsV_nil ?_; (try dsimp only [thenV_normal, inBV_normal]))
  (refine wpV_seq ?_)
  (refine wpV_seq ?_)
  (refine wpV_region ?_; simp only [List.size_toArray, List.length_cons, List.length_nil, Nat.reduceAdd, Nat.zero_add, List.range, List.range.loop])
  (refine opsV_op_k rfl (by rfl) (fun B hn => opsH hn hgl (by first | rfl | kernel_rfl)) ?_; intro τ p K hK; go_simp; refine hK _ _ ?_; clear hK K p τ; (try walk_nrm))
  (refine opsV_op_k rfl (by rfl) (fun B hn => opsH hn hgl (by first | rfl | kernel_rfl)) ?_; intro τ p K hK; go_simp; refine hK _ _ ?_; clear hK K p τ; (try walk_nrm))
  (refine opsV_nil ?_; (try dsimp only [thenV_normal, inBV_normal]))
  (refine wpV_cond_t rfl ?_)
  (refine wpV_seq ?_)
  (refine wpV_region ?_; simp only [List.size_toArray, List.length_cons, List.length_nil, Nat.reduceAdd, Nat.zero_add, List.range, List.range.loop])
  (refine opsV_enter (R := ?R26) rfl (by rfl) (run_callV rfl rfl Tryz.func5 (by kernel_rfl) rfl) (pf_call hgl (by rfl)) ?hc26 ?hn26; case hc26 => (walk_nrm; exact hkn))
  rintro F2 z u2 ⟨rfl, hm⟩
  have HM := Lib.hid hm
  clear hm hkn
  walk_nrm
  (refine opsV_op_k rfl (by rfl) (fun B hn => opsH hn hgl (by first | rfl | kernel_rfl)) ?_; intro τ p K hK; go_simp; refine hK _ _ ?_; clear hK K p τ; (try walk_nrm))
  (refine opsV_nil ?_; (try dsimp only [thenV_normal, inBV_normal]))
  (refine wpV_ret ?_; (try dsimp only [thenV_ret, inBV_ret]))
  exact ⟨.inr rfl, rfl, _, resultsC_tmp (by rfl) _, rfl, HK.out.mrg HM.out, fun b hb hf => HM.out.old b (Nat.lt_of_lt_of_le hb HK.out.size) hf⟩
end
end Go.Proofs.YtmmjlngbiilagaaGreatDoor
