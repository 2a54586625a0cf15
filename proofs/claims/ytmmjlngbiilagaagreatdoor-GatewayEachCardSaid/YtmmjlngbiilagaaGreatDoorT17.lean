/-
  ALONE: the reference's Insert.
-/
import Derived.Test.YtmmjlngbiilagaaGreatDoorT16
import Derived.Deep.CutBlock
import Derived.Deep.CutRange
import Derived.Shelf.Strconv.Itoa3
import Derived.Shelf.Lay
import Derived.Ground.NamesProg

namespace Go.Proofs.YtmmjlngbiilagaaGreatDoor
open Go Go.Conc Go.Shelf Go.RowKit Go.Lib

/-- Where it goes. -/
def posL (l : List M4) (m : M4) : Nat := (l.takeWhile fun x => befB x m).length
def insL (l : List M4) (m : M4) : List M4 := l.take (posL l m) ++ [m] ++ l.drop (posL l m)
theorem posL_at {l : List M4} {m : M4} {k : Nat} (hk : k ≤ l.length) (hb : ∀ j x, j < k → l[j]? = some x → befB x m = true) (he : ∀ x, l[k]? = some x → befB x m = false) : posL l m = k := by
  induction l generalizing k with
  | nil => simp at hk; subst hk; rfl
  | cons y l ih =>
    unfold posL at ih ⊢
    cases k with
    | zero =>
      have := he y rfl
      simp [List.takeWhile_cons, this]
    | succ k =>
      have h0 := hb 0 y (by omega) rfl
      have := ih (k := k) (by simpa using hk) (fun j x hj hx => hb (j + 1) x (by omega) (by simpa using hx)) (fun x hx => he x (by simpa using hx))
      simp [List.takeWhile_cons, h0, this]
def InsRes (w : World) (l : List M4) (e : Ending) (w' : World) : Prop := ∃ v, e = .returned v ∧ w'.ownsRow w.heap.size 49 4 v l.length (cellsL l) ∧ Below w.heap.size w w'
/-! ### chains of allocs and draws -/
theorem below_drew {B : Nat} {a w : World} (h : Below B a w) : Below B a w.drew := ⟨h.os, h.tape, h.output, h.size, h.block⟩
theorem heap_drew {w : World} {g : Nat} {o : Option Obj} (h : w.heap[g]? = o) : w.drew.heap[g]? = o := h
theorem heap_drewN {w : World} {g q : Nat} {o : Option Obj} (h : w.heap[g]? = o) : (w.drewN q).heap[g]? = o := h
theorem newBlk (w : World) (o : Obj) (n : Nat) (h : w.heap.size = n) : (w.alloc o).heap[n]? = some o := h ▸ heap_alloc_new w o
theorem own_drew {w : World} {base : Nat} {e : TypeId} {size : Nat} {v : Value} {n : Nat} {xs : List Value} (h : w.ownsRow base e size v n xs) : w.drew.ownsRow base e size v n xs := h
theorem own_drewN' {w : World} {base : Nat} {e : TypeId} {size : Nat} {v : Value} {n q : Nat} {xs : List Value} (h : w.ownsRow base e size v n xs) : (w.drewN q).ownsRow base e size v n xs := h
theorem MRow.take {w : World} {B : Nat} {A : Option Addr} {ms : List M4} (h : MRow w B A ms) (p : Nat) : MRow w B A (ms.take p) := by
  rcases h with rfl | ⟨b, o, rfl, hb, hc⟩
  · exact .inl (by simp)
  · refine .inr ⟨b, o, rfl, hb, fun j x hx => hc j x ?_⟩
    rw [List.getElem?_take] at hx
    split at hx
    · exact hx
    · cases hx
theorem MRow.drop {w : World} {B b o : Nat} {ms : List M4} (h : MRow w B (some ⟨b, o, none⟩) ms) (p : Nat) : MRow w B (some ⟨b, o + p * 4, none⟩) (ms.drop p) := by
  rcases h with rfl | ⟨b', o', e, hb, hc⟩
  · exact .inl (by simp)
  · cases e
    refine .inr ⟨b, _, rfl, hb, fun j x hx => ?_⟩
    have := hc (p + j) x (by simpa using hx)
    have e : o + p * 4 + j * 4 = o + (p + j) * 4 := by omega
    rw [e]
    exact this
theorem MRow.one {w : World} {B g : Nat} {m : M4} (h : w.heap[g]? = some (.cells #[.int .i64 m.t, .string m.m, .int .i64 m.s, .string m.p] 49)) (hg : g < B) : MRow w B (some ⟨g, 0, none⟩) [m] := by
  refine .inr ⟨g, 0, rfl, hg, fun j x hx => ?_⟩
  cases j with
  | succ j => simp at hx
  | zero =>
    cases hx
    have c0 := cell_of_row w g 0 _ _ _ h
    have c1 := cell_of_row w g 1 _ _ _ h
    have c2 := cell_of_row w g 2 _ _ _ h
    have c3 := cell_of_row w g 3 _ _ _ h
    exact ⟨c0, c1, c2, c3⟩
theorem own_empty {w : World} {base g : Nat} (h : w.heap[g]? = some (.cells #[] 49)) (hb : base ≤ g) : w.ownsRow base 49 4 (.slice (some ⟨g, 0, none⟩) 0 0) 0 [] :=
  ⟨rfl, .inr ⟨g, 0, #[], rfl, hb, h, Nat.le_refl _, by decide, rfl, rfl⟩⟩
theorem own_ge {w : World} {base : Nat} {e : TypeId} {size : Nat} {v : Value} {n : Nat} {xs : List Value} (h : w.ownsRow base e size v n xs) : ∀ q, v.ownBlock = some q → base ≤ q := fun q hq => by
  rcases h.2 with ⟨rfl, _⟩ | ⟨g, _, _, rfl, hg, _⟩
  · cases hq
  · simp only [Value.ownBlock, Option.some.injEq] at hq; omega
set_option maxRecDepth 100000 in
set_option maxHeartbeats 4000000 in
theorem insert_calls (A : Option Addr) (n cap : Nat) (l : List M4) (m : M4) (w : World) (hm : MRow w w.heap.size A l) (hn : l.length = n) (hnc : n ≤ cap) (hn3 : n ≤ 300) (hA : l = [] → A = none ∧ cap = 0) (hs : ∀ x ∈ l, x.m.size ≤ maxLen) (hms : m.m.size ≤ maxLen) :
    Calls Vh 23 #[.slice A n cap, .agg #[.int .i64 m.t, .string m.m, .int .i64 m.s, .string m.p]] w (InsRes w (insL l m)) := by
  have hF : Vh.funcs[23]? = some Tryz.f23 := Vh.fn Tryz.func23 (by kernel_rfl)
  have e1 := enterV Tryz.func38 (by kernel_rfl) (by kernel_rfl) rfl
  have HM := Lib.hid hm
  have HN := Lib.hid hn
  have HS := Lib.hid hs
  have hbef := fun x hx W => before_calls x m W hx hms
  clear hm hn hs
  go_enter hF, Tryz.ntmps23
  go_upto_block 0 with fail
  go_cut [5] from 6 to 19 (fun i wx => i = .int .i64 (posL l m : Int) ∧ posL l m ≤ n ∧ Below (w.heap.size + 1) (w.alloc (.cells #[.int .i64 m.t, .string m.m, .int .i64 m.s, .string m.p] 49)) wx)
  case first =>
    go_wp2_with fail
    go_loopw [5] (fun i u => ∃ k : Nat, k ≤ n ∧ i = .int .i64 k ∧ Below (w.heap.size + 1) (w.alloc (.cells #[.int .i64 m.t, .string m.m, .int .i64 m.s, .string m.p] 49)) u ∧ ∀ j x, j < k → l[j]? = some x → befB x m = true) (fun i _ => n - (intOf i).toNat)
    case atStart => exact ⟨0, Nat.zero_le _, rfl, Below.refl _ _, fun j _ h => absurd h (Nat.not_lt_zero j)⟩
    case round =>
      obtain ⟨k, hk, rfl, hb, hz⟩ := hrel
      have hS0 : wr.heap[w.heap.size]? = some (.cells #[.int .i64 m.t, .string m.m, .int .i64 m.s, .string m.p] 49 (0, 0)) := (hb.block _ (by omega)).trans (heap_alloc_new w _)
      have c0 := cell_of_row wr w.heap.size 0 _ _ _ hS0
      have c1 := cell_of_row wr w.heap.size 1 _ _ _ hS0
      have c2 := cell_of_row wr w.heap.size 2 _ _ _ hS0
      have c3 := cell_of_row wr w.heap.size 3 _ _ _ hS0
      simp only [List.getElem?_toArray, List.getElem?_cons_zero, List.getElem?_cons_succ] at c0 c1 c2 c3
      have hbw : Below w.heap.size w wr := ((Below.refl _ _).alloc (Nat.le_refl _) _).trans (hb.mono (by omega))
      have hlt0 : w.heap.size < wr.heap.size := heap_lt hS0
      clear hS0
      by_cases hlt : k < n
      · obtain ⟨x, hx⟩ : ∃ x, l[k]? = some x := ⟨_, List.getElem?_eq_getElem (by have := HN.out; omega)⟩
        obtain ⟨b, o, rfl, hbB, m0, m1, m2, m3⟩ := (HM.out.below hbw).at_ hx
        have hc := fun W => hbef x (HS.out x (List.mem_of_getElem? hx)) W
        have HB := Lib.hid hb
        have HW := Lib.hid hbw
        have HZ := Lib.hid hz
        have HX := Lib.hid hx
        clear hb hbw hz hx hbef
        cases hbx : befB x m
        · have HC := Lib.hid hbx
          rw [hbx] at hc
          clear hbx
          go_wp2_with fail
          go_region_law (first | (go_simp; go_at_call 38; refine (hc _).mono ?_; rintro e w' ⟨rfl, hbq⟩))
          all_goals
            go_wp2_with fail
            go_meet
            have hp : posL l m = k := posL_at (by rw [HN.out]; omega) HZ.out (fun y hy => by rw [HX.out] at hy; cases hy; exact HC.out)
            exact ⟨by rw [hp], by omega, (below_drewN HB.out 1).trans (hbq.mono (by simp; omega))⟩
        · have HC := Lib.hid hbx
          rw [hbx] at hc
          clear hbx
          go_wp2_with fail
          go_region_law (first | (go_simp; go_at_call 38; refine (hc _).mono ?_; rintro e w' ⟨rfl, hbq⟩))
          all_goals
            go_wp2_with fail
            go_roundw
            case rel =>
              refine ⟨k + 1, by omega, by go_num, (below_drewN HB.out 1).trans (hbq.mono (by simp; omega)), fun j y hj hy => ?_⟩
              by_cases hjk : j < k
              · exact HZ.out j y hjk hy
              · obtain rfl : j = k := by omega
                rw [HX.out] at hy
                cases hy
                exact HC.out
            case measure => simp [intOf]; omega
      · have hkn : k = n := by omega
        subst hkn
        have HB := Lib.hid hb
        have HZ := Lib.hid hz
        clear hb hz
        go_wp2_with fail
        go_quiet (fail)
        go_wp2_with fail
        go_meet
        have hp : posL l m = k := posL_at (by rw [HN.out]; omega) HZ.out (fun y hy => by rw [List.getElem?_eq_none (by rw [HN.out]; omega)] at hy; cases hy)
        exact ⟨by rw [hp], by omega, below_drewN HB.out _⟩
  case rest =>
    obtain ⟨rfl, hpn, hb⟩ := hcut
    have hS0 : wc.heap[w.heap.size]? = some (.cells #[.int .i64 m.t, .string m.m, .int .i64 m.s, .string m.p] 49 (0, 0)) := (hb.block _ (by omega)).trans (heap_alloc_new w _)
    have c0 := cell_of_row wc w.heap.size 0 _ _ _ hS0
    have c1 := cell_of_row wc w.heap.size 1 _ _ _ hS0
    have c2 := cell_of_row wc w.heap.size 2 _ _ _ hS0
    have c3 := cell_of_row wc w.heap.size 3 _ _ _ hS0
    simp only [List.getElem?_toArray, List.getElem?_cons_zero, List.getElem?_cons_succ] at c0 c1 c2 c3
    have hbw : Below w.heap.size w wc := ((Below.refl _ _).alloc (Nat.le_refl _) _).trans (hb.mono (by omega))
    have hlt0 : w.heap.size < wc.heap.size := heap_lt hS0
    have HB := Lib.hid hb
    have HW := Lib.hid hbw
    clear hb hbw hS0 hbef
    generalize hpp : posL l m = p at *
    have HP := Lib.hid hpp
    clear hpp
    rcases HM.out with hl0 | ⟨b, o, rfl, hbB, hc⟩
    · obtain ⟨rfl, hc0⟩ := hA hl0
      have HL0 := Lib.hid hl0
      have hn0 : n = cap := by omega
      have hp0 : cap = p := by omega
      subst hn0
      subst hp0
      have HC0 := Lib.hid hc0
      clear hc0 hA hl0 hpn hnc
      go_wp2_with fail
      go_region_law (first
        | (refine step_appM (by rfl) (.tmp 20) (.tmp 23) (by rfl) (w.heap.size + 1) _ 0 [] (by rfl) (own_empty (by (repeat (first | (with_reducible refine heap_drew ?_) | (with_reducible refine heap_drewN ?_) | (with_reducible refine newBlk _ _ _ (by (first | omega | (simp; omega) | (simp; done)))) | (with_reducible refine (Below.heap_alloc _ _ _ (by (first | omega | (simp; omega) | (simp; done)))).trans ?_)))) (by (first | omega | (simp; omega) | (simp; done)))) none n n w.heap.size (l.take n) (by rfl) (by rw [List.length_take]; have := HN.out; omega) (.inl (by rw [HL0.out]; simp)) (by omega) (by (first | omega | (simp; omega) | (simp; done))) _ (by rfl) ?_
           intro v1 w1 A1 cap1 hv1 hown1 hgr1 hbk1
           simp only [Nat.zero_add, List.nil_append] at hv1 hown1
           subst hv1
           have HB1 : Below (w.heap.size + 1) (w.alloc (.cells #[.int .i64 m.t, .string m.m, .int .i64 m.s, .string m.p] 49)) w1 := by
             refine Below.grown ?_ hgr1 ?_ ?_
             · (repeat (first | (with_reducible refine below_drew ?_) | (with_reducible refine below_drewN ?_ _) | (with_reducible refine Below.alloc ?_ (by (first | omega | (simp; omega) | (simp; done))) _) | exact HB.out))
             · (first | omega | (simp; omega) | (simp; done))
             · intro q hq; simp only [Value.ownBlock, Option.some.injEq] at hq; omega
           have z1 : w.heap.size + 1 ≤ w1.heap.size := by have := HB1.size; simpa using this
           have e1 : w1.heap[w.heap.size]? = _ := (HB1.block _ (by omega)).trans (heap_alloc_new w _)
           have d0 := cell_of_row w1 w.heap.size 0 _ _ _ e1
           have d1 := cell_of_row w1 w.heap.size 1 _ _ _ e1
           have d2 := cell_of_row w1 w.heap.size 2 _ _ _ e1
           have d3 := cell_of_row w1 w.heap.size 3 _ _ _ e1
           simp only [List.getElem?_toArray, List.getElem?_cons_zero, List.getElem?_cons_succ] at d0 d1 d2 d3)
        | (refine step_appM (by rfl) (.tmp 24) (.tmp 26) (by rfl) (w.heap.size + 1) (.slice A1 n cap1) n (cellsL (l.take n)) (by rfl) (by (repeat (first | (with_reducible refine own_drew ?_) | (with_reducible refine own_drewN' ?_) | (with_reducible refine World.ownsRow.alloc ?_ _) | exact hown1))) (some ⟨w1.heap.size, 0, none⟩) 1 1 (w1.heap.size + 1) [m] (by rfl) (by rfl) (MRow.one (by (repeat (first | (with_reducible refine heap_drew ?_) | (with_reducible refine heap_drewN ?_) | (with_reducible refine newBlk _ _ _ (by (first | omega | (simp; omega) | (simp; done)))) | (with_reducible refine (Below.heap_alloc _ _ _ (by (first | omega | (simp; omega) | (simp; done)))).trans ?_)))) (Nat.lt_succ_self _)) (by omega) (by (first | omega | (simp; omega) | (simp; done))) _ (by rfl) ?_
           intro v2 w2 A2 cap2 hv2 hown2 hgr2 hbk2
           subst hv2
           have HB2 : Below (w.heap.size + 1) (w.alloc (.cells #[.int .i64 m.t, .string m.m, .int .i64 m.s, .string m.p] 49)) w2 := by
             refine Below.grown ?_ hgr2 ?_ (fun q hq => own_ge hown1 q hq)
             · (repeat (first | (with_reducible refine below_drew ?_) | (with_reducible refine below_drewN ?_ _) | (with_reducible refine Below.alloc ?_ (by (first | omega | (simp; omega) | (simp; done))) _) | exact HB1))
             · (first | omega | (simp; omega) | (simp; done))
           have z2 : w.heap.size + 1 ≤ w2.heap.size := by have := HB2.size; simpa using this)
        | (refine step_appM (by rfl) (.tmp 24) (.tmp 26) (by rfl) (w.heap.size + 1) (.slice A1 n cap1) n (cellsL (l.take n)) (by rfl) (by (repeat (first | (with_reducible refine own_drew ?_) | (with_reducible refine own_drewN' ?_) | (with_reducible refine World.ownsRow.alloc ?_ _) | exact hown1))) (some ⟨wc.heap.size + 1, 0, none⟩) 1 1 (wc.heap.size + 1 + 1) [m] (by rfl) (by rfl) (MRow.one (by refine (hgr1.block _ (by (first | omega | (simp; omega) | (simp; done))) (by simp [Value.ownBlock])).trans ?_; (repeat (first | (with_reducible refine heap_drew ?_) | (with_reducible refine heap_drewN ?_) | (with_reducible refine newBlk _ _ _ (by (first | omega | (simp; omega) | (simp; done)))) | (with_reducible refine (Below.heap_alloc _ _ _ (by (first | omega | (simp; omega) | (simp; done)))).trans ?_)))) (Nat.lt_succ_self _)) (by omega) (by (first | omega | (simp; omega) | (simp; done))) _ (by rfl) ?_
           intro v2 w2 A2 cap2 hv2 hown2 hgr2 hbk2
           subst hv2
           have HB2 : Below (w.heap.size + 1) (w.alloc (.cells #[.int .i64 m.t, .string m.m, .int .i64 m.s, .string m.p] 49)) w2 := by
             refine Below.grown ?_ hgr2 ?_ (fun q hq => own_ge hown1 q hq)
             · (repeat (first | (with_reducible refine below_drew ?_) | (with_reducible refine below_drewN ?_ _) | (with_reducible refine Below.alloc ?_ (by (first | omega | (simp; omega) | (simp; done))) _) | exact HB1))
             · (first | omega | (simp; omega) | (simp; done))
           have z2 : w.heap.size + 1 ≤ w2.heap.size := by have := HB2.size; simpa using this)
        | (refine step_appM (by rfl) (.tmp 24) (.tmp 26) (by rfl) (w.heap.size + 1) (.slice A1 n cap1) n (cellsL (l.take n)) (by rfl) (by (repeat (first | (with_reducible refine own_drew ?_) | (with_reducible refine own_drewN' ?_) | (with_reducible refine World.ownsRow.alloc ?_ _) | exact hown1))) (some ⟨wc.heap.size, 0, none⟩) 1 1 (wc.heap.size + 1) [m] (by rfl) (by rfl) (MRow.one (by refine (hgr1.block _ (by (first | omega | (simp; omega) | (simp; done))) (by simp [Value.ownBlock])).trans ?_; (repeat (first | (with_reducible refine heap_drew ?_) | (with_reducible refine heap_drewN ?_) | (with_reducible refine newBlk _ _ _ (by (first | omega | (simp; omega) | (simp; done)))) | (with_reducible refine (Below.heap_alloc _ _ _ (by (first | omega | (simp; omega) | (simp; done)))).trans ?_)))) (Nat.lt_succ_self _)) (by omega) (by (first | omega | (simp; omega) | (simp; done))) _ (by rfl) ?_
           intro v2 w2 A2 cap2 hv2 hown2 hgr2 hbk2
           subst hv2
           have HB2 : Below (w.heap.size + 1) (w.alloc (.cells #[.int .i64 m.t, .string m.m, .int .i64 m.s, .string m.p] 49)) w2 := by
             refine Below.grown ?_ hgr2 ?_ (fun q hq => own_ge hown1 q hq)
             · (repeat (first | (with_reducible refine below_drew ?_) | (with_reducible refine below_drewN ?_ _) | (with_reducible refine Below.alloc ?_ (by (first | omega | (simp; omega) | (simp; done))) _) | exact HB1))
             · (first | omega | (simp; omega) | (simp; done))
           have z2 : w.heap.size + 1 ≤ w2.heap.size := by have := HB2.size; simpa using this)
        | (refine step_appM (by rfl) (.tmp 27) (.tmp 30) (by rfl) (w.heap.size + 1) (.slice A2 (n + 1) cap2) (n + 1) (cellsL (l.take n) ++ cellsL [m]) (by rfl) (by (repeat (first | (with_reducible refine own_drew ?_) | (with_reducible refine own_drewN' ?_) | (with_reducible refine World.ownsRow.alloc ?_ _) | exact hown2))) none 0 0 w.heap.size (l.drop n) (by rfl) (by rw [List.length_drop]; have := HN.out; omega) (.inl (by rw [HL0.out]; simp)) (by omega) (by (first | omega | (simp; omega) | (simp; done))) _ (by rfl) ?_
           intro v3 w3 A3 cap3 hv3 hown3 hgr3 hbk3
           subst hv3
           have HB3 : Below (w.heap.size + 1) (w.alloc (.cells #[.int .i64 m.t, .string m.m, .int .i64 m.s, .string m.p] 49)) w3 := by
             refine Below.grown ?_ hgr3 ?_ (fun q hq => own_ge hown2 q hq)
             · (repeat (first | (with_reducible refine below_drew ?_) | (with_reducible refine below_drewN ?_ _) | (with_reducible refine Below.alloc ?_ (by (first | omega | (simp; omega) | (simp; done))) _) | exact HB2))
             · (first | omega | (simp; omega) | (simp; done)))
        | fail "no arm")
      all_goals
        go_wp2_with fail
        go_ret
        refine ⟨_, rfl, ?_, ((Below.refl _ _).alloc (Nat.le_refl _) _).trans (HB3.mono (by omega))⟩
        have e2 : (insL l m).length = (n + 1) + 0 := by
          have := HN.out
          simp only [insL, HP.out, List.length_append, List.length_take, List.length_drop, List.length_cons, List.length_nil]
          omega
        have e3 : cellsL (insL l m) = cellsL (l.take n) ++ cellsL [m] ++ cellsL (l.drop n) := by simp [insL, HP.out, cellsL]
        rw [e2, e3]
        exact own_base hown3 (by omega)
    · have hpc : p ≤ cap := by omega
      have hrB : ∀ W : World, Below (w.heap.size + 1) (w.alloc (.cells #[.int .i64 m.t, .string m.m, .int .i64 m.s, .string m.p] 49)) W → MRow W w.heap.size (some ⟨b, o, none⟩) l := fun W hW => HM.out.below (((Below.refl _ _).alloc (Nat.le_refl _) _).trans (hW.mono (by omega)))
      have HRB := Lib.hid hrB
      clear hrB
      by_cases hcp : cap = p
      · obtain rfl : p = n := by omega
        subst hcp
        have hl0 : l.drop cap = [] := List.drop_eq_nil_of_le (by rw [HN.out]; exact Nat.le_refl _)
        go_wp2_with fail
        go_region_law (first
          | (refine step_appM (by rfl) (.tmp 20) (.tmp 23) (by rfl) (w.heap.size + 1) _ 0 [] (by rfl) (own_empty (by (repeat (first | (with_reducible refine heap_drew ?_) | (with_reducible refine heap_drewN ?_) | (with_reducible refine newBlk _ _ _ (by (first | omega | (simp; omega) | (simp; done)))) | (with_reducible refine (Below.heap_alloc _ _ _ (by (first | omega | (simp; omega) | (simp; done)))).trans ?_)))) (by (first | omega | (simp; omega) | (simp; done)))) (some ⟨b, o, none⟩) cap cap w.heap.size (l.take cap) (by rfl) (by rw [List.length_take]; have := HN.out; omega) ((HRB.out _ (by (repeat (first | (with_reducible refine below_drew ?_) | (with_reducible refine below_drewN ?_ _) | (with_reducible refine Below.alloc ?_ (by (first | omega | (simp; omega) | (simp; done))) _) | exact HB.out)))).take cap) (by omega) (by (first | omega | (simp; omega) | (simp; done))) _ (by rfl) ?_
             intro v1 w1 A1 cap1 hv1 hown1 hgr1 hbk1
             simp only [Nat.zero_add, List.nil_append] at hv1 hown1
             subst hv1
             have HB1 : Below (w.heap.size + 1) (w.alloc (.cells #[.int .i64 m.t, .string m.m, .int .i64 m.s, .string m.p] 49)) w1 := by
               refine Below.grown ?_ hgr1 ?_ ?_
               · (repeat (first | (with_reducible refine below_drew ?_) | (with_reducible refine below_drewN ?_ _) | (with_reducible refine Below.alloc ?_ (by (first | omega | (simp; omega) | (simp; done))) _) | exact HB.out))
               · (first | omega | (simp; omega) | (simp; done))
               · intro q hq; simp only [Value.ownBlock, Option.some.injEq] at hq; omega
             have z1 : w.heap.size + 1 ≤ w1.heap.size := by have := HB1.size; simpa using this
             have e1 : w1.heap[w.heap.size]? = _ := (HB1.block _ (by omega)).trans (heap_alloc_new w _)
             have d0 := cell_of_row w1 w.heap.size 0 _ _ _ e1
             have d1 := cell_of_row w1 w.heap.size 1 _ _ _ e1
             have d2 := cell_of_row w1 w.heap.size 2 _ _ _ e1
             have d3 := cell_of_row w1 w.heap.size 3 _ _ _ e1
             simp only [List.getElem?_toArray, List.getElem?_cons_zero, List.getElem?_cons_succ] at d0 d1 d2 d3)
          | (refine step_appM (by rfl) (.tmp 24) (.tmp 26) (by rfl) (w.heap.size + 1) (.slice A1 cap cap1) cap (cellsL (l.take cap)) (by rfl) (by (repeat (first | (with_reducible refine own_drew ?_) | (with_reducible refine own_drewN' ?_) | (with_reducible refine World.ownsRow.alloc ?_ _) | exact hown1))) (some ⟨w1.heap.size, 0, none⟩) 1 1 (w1.heap.size + 1) [m] (by rfl) (by rfl) (MRow.one (by (repeat (first | (with_reducible refine heap_drew ?_) | (with_reducible refine heap_drewN ?_) | (with_reducible refine newBlk _ _ _ (by (first | omega | (simp; omega) | (simp; done)))) | (with_reducible refine (Below.heap_alloc _ _ _ (by (first | omega | (simp; omega) | (simp; done)))).trans ?_)))) (Nat.lt_succ_self _)) (by omega) (by (first | omega | (simp; omega) | (simp; done))) _ (by rfl) ?_
             intro v2 w2 A2 cap2 hv2 hown2 hgr2 hbk2
             subst hv2
             have HB2 : Below (w.heap.size + 1) (w.alloc (.cells #[.int .i64 m.t, .string m.m, .int .i64 m.s, .string m.p] 49)) w2 := by
               refine Below.grown ?_ hgr2 ?_ (fun q hq => own_ge hown1 q hq)
               · (repeat (first | (with_reducible refine below_drew ?_) | (with_reducible refine below_drewN ?_ _) | (with_reducible refine Below.alloc ?_ (by (first | omega | (simp; omega) | (simp; done))) _) | exact HB1))
               · (first | omega | (simp; omega) | (simp; done))
             have z2 : w.heap.size + 1 ≤ w2.heap.size := by have := HB2.size; simpa using this)
          | (refine step_appM (by rfl) (.tmp 24) (.tmp 26) (by rfl) (w.heap.size + 1) (.slice A1 cap cap1) cap (cellsL (l.take cap)) (by rfl) (by (repeat (first | (with_reducible refine own_drew ?_) | (with_reducible refine own_drewN' ?_) | (with_reducible refine World.ownsRow.alloc ?_ _) | exact hown1))) (some ⟨wc.heap.size + 1, 0, none⟩) 1 1 (wc.heap.size + 1 + 1) [m] (by rfl) (by rfl) (MRow.one (by refine (hgr1.block _ (by (first | omega | (simp; omega) | (simp; done))) (by simp [Value.ownBlock])).trans ?_; (repeat (first | (with_reducible refine heap_drew ?_) | (with_reducible refine heap_drewN ?_) | (with_reducible refine newBlk _ _ _ (by (first | omega | (simp; omega) | (simp; done)))) | (with_reducible refine (Below.heap_alloc _ _ _ (by (first | omega | (simp; omega) | (simp; done)))).trans ?_)))) (Nat.lt_succ_self _)) (by omega) (by (first | omega | (simp; omega) | (simp; done))) _ (by rfl) ?_
             intro v2 w2 A2 cap2 hv2 hown2 hgr2 hbk2
             subst hv2
             have HB2 : Below (w.heap.size + 1) (w.alloc (.cells #[.int .i64 m.t, .string m.m, .int .i64 m.s, .string m.p] 49)) w2 := by
               refine Below.grown ?_ hgr2 ?_ (fun q hq => own_ge hown1 q hq)
               · (repeat (first | (with_reducible refine below_drew ?_) | (with_reducible refine below_drewN ?_ _) | (with_reducible refine Below.alloc ?_ (by (first | omega | (simp; omega) | (simp; done))) _) | exact HB1))
               · (first | omega | (simp; omega) | (simp; done))
             have z2 : w.heap.size + 1 ≤ w2.heap.size := by have := HB2.size; simpa using this)
          | (refine step_appM (by rfl) (.tmp 24) (.tmp 26) (by rfl) (w.heap.size + 1) (.slice A1 cap cap1) cap (cellsL (l.take cap)) (by rfl) (by (repeat (first | (with_reducible refine own_drew ?_) | (with_reducible refine own_drewN' ?_) | (with_reducible refine World.ownsRow.alloc ?_ _) | exact hown1))) (some ⟨wc.heap.size, 0, none⟩) 1 1 (wc.heap.size + 1) [m] (by rfl) (by rfl) (MRow.one (by refine (hgr1.block _ (by (first | omega | (simp; omega) | (simp; done))) (by simp [Value.ownBlock])).trans ?_; (repeat (first | (with_reducible refine heap_drew ?_) | (with_reducible refine heap_drewN ?_) | (with_reducible refine newBlk _ _ _ (by (first | omega | (simp; omega) | (simp; done)))) | (with_reducible refine (Below.heap_alloc _ _ _ (by (first | omega | (simp; omega) | (simp; done)))).trans ?_)))) (Nat.lt_succ_self _)) (by omega) (by (first | omega | (simp; omega) | (simp; done))) _ (by rfl) ?_
             intro v2 w2 A2 cap2 hv2 hown2 hgr2 hbk2
             subst hv2
             have HB2 : Below (w.heap.size + 1) (w.alloc (.cells #[.int .i64 m.t, .string m.m, .int .i64 m.s, .string m.p] 49)) w2 := by
               refine Below.grown ?_ hgr2 ?_ (fun q hq => own_ge hown1 q hq)
               · (repeat (first | (with_reducible refine below_drew ?_) | (with_reducible refine below_drewN ?_ _) | (with_reducible refine Below.alloc ?_ (by (first | omega | (simp; omega) | (simp; done))) _) | exact HB1))
               · (first | omega | (simp; omega) | (simp; done))
             have z2 : w.heap.size + 1 ≤ w2.heap.size := by have := HB2.size; simpa using this)
          | (refine step_appM (by rfl) (.tmp 27) (.tmp 30) (by rfl) (w.heap.size + 1) (.slice A2 (cap + 1) cap2) (cap + 1) (cellsL (l.take cap) ++ cellsL [m]) (by rfl) (by (repeat (first | (with_reducible refine own_drew ?_) | (with_reducible refine own_drewN' ?_) | (with_reducible refine World.ownsRow.alloc ?_ _) | exact hown2))) (some ⟨b, o, none⟩) 0 0 w.heap.size (l.drop cap) (by rfl) (by rw [List.length_drop]; have := HN.out; omega) (.inl hl0) (by omega) (by (first | omega | (simp; omega) | (simp; done))) _ (by rfl) ?_
             intro v3 w3 A3 cap3 hv3 hown3 hgr3 hbk3
             subst hv3
             have HB3 : Below (w.heap.size + 1) (w.alloc (.cells #[.int .i64 m.t, .string m.m, .int .i64 m.s, .string m.p] 49)) w3 := by
               refine Below.grown ?_ hgr3 ?_ (fun q hq => own_ge hown2 q hq)
               · (repeat (first | (with_reducible refine below_drew ?_) | (with_reducible refine below_drewN ?_ _) | (with_reducible refine Below.alloc ?_ (by (first | omega | (simp; omega) | (simp; done))) _) | exact HB2))
               · (first | omega | (simp; omega) | (simp; done)))
          | fail "no arm")
        all_goals
          go_wp2_with fail
          go_ret
          refine ⟨_, rfl, ?_, ((Below.refl _ _).alloc (Nat.le_refl _) _).trans (HB3.mono (by omega))⟩
          have e2 : (insL l m).length = (cap + 1) + 0 := by
            have := HN.out
            simp only [insL, HP.out, List.length_append, List.length_take, List.length_drop, List.length_cons, List.length_nil]
            omega
          have e3 : cellsL (insL l m) = cellsL (l.take cap) ++ cellsL [m] ++ cellsL (l.drop cap) := by simp [insL, HP.out, cellsL]
          rw [e2, e3]
          exact own_base hown3 (by omega)
      · skip
        go_wp2_with fail
        go_region_law (first
          | (refine step_appM (by rfl) (.tmp 20) (.tmp 23) (by rfl) (w.heap.size + 1) _ 0 [] (by rfl) (own_empty (by (repeat (first | (with_reducible refine heap_drew ?_) | (with_reducible refine heap_drewN ?_) | (with_reducible refine newBlk _ _ _ (by (first | omega | (simp; omega) | (simp; done)))) | (with_reducible refine (Below.heap_alloc _ _ _ (by (first | omega | (simp; omega) | (simp; done)))).trans ?_)))) (by (first | omega | (simp; omega) | (simp; done)))) (some ⟨b, o, none⟩) p cap w.heap.size (l.take p) (by rfl) (by rw [List.length_take]; have := HN.out; omega) ((HRB.out _ (by (repeat (first | (with_reducible refine below_drew ?_) | (with_reducible refine below_drewN ?_ _) | (with_reducible refine Below.alloc ?_ (by (first | omega | (simp; omega) | (simp; done))) _) | exact HB.out)))).take p) (by omega) (by (first | omega | (simp; omega) | (simp; done))) _ (by rfl) ?_
             intro v1 w1 A1 cap1 hv1 hown1 hgr1 hbk1
             simp only [Nat.zero_add, List.nil_append] at hv1 hown1
             subst hv1
             have HB1 : Below (w.heap.size + 1) (w.alloc (.cells #[.int .i64 m.t, .string m.m, .int .i64 m.s, .string m.p] 49)) w1 := by
               refine Below.grown ?_ hgr1 ?_ ?_
               · (repeat (first | (with_reducible refine below_drew ?_) | (with_reducible refine below_drewN ?_ _) | (with_reducible refine Below.alloc ?_ (by (first | omega | (simp; omega) | (simp; done))) _) | exact HB.out))
               · (first | omega | (simp; omega) | (simp; done))
               · intro q hq; simp only [Value.ownBlock, Option.some.injEq] at hq; omega
             have z1 : w.heap.size + 1 ≤ w1.heap.size := by have := HB1.size; simpa using this
             have e1 : w1.heap[w.heap.size]? = _ := (HB1.block _ (by omega)).trans (heap_alloc_new w _)
             have d0 := cell_of_row w1 w.heap.size 0 _ _ _ e1
             have d1 := cell_of_row w1 w.heap.size 1 _ _ _ e1
             have d2 := cell_of_row w1 w.heap.size 2 _ _ _ e1
             have d3 := cell_of_row w1 w.heap.size 3 _ _ _ e1
             simp only [List.getElem?_toArray, List.getElem?_cons_zero, List.getElem?_cons_succ] at d0 d1 d2 d3)
          | (refine step_appM (by rfl) (.tmp 24) (.tmp 26) (by rfl) (w.heap.size + 1) (.slice A1 p cap1) p (cellsL (l.take p)) (by rfl) (by (repeat (first | (with_reducible refine own_drew ?_) | (with_reducible refine own_drewN' ?_) | (with_reducible refine World.ownsRow.alloc ?_ _) | exact hown1))) (some ⟨w1.heap.size, 0, none⟩) 1 1 (w1.heap.size + 1) [m] (by rfl) (by rfl) (MRow.one (by (repeat (first | (with_reducible refine heap_drew ?_) | (with_reducible refine heap_drewN ?_) | (with_reducible refine newBlk _ _ _ (by (first | omega | (simp; omega) | (simp; done)))) | (with_reducible refine (Below.heap_alloc _ _ _ (by (first | omega | (simp; omega) | (simp; done)))).trans ?_)))) (Nat.lt_succ_self _)) (by omega) (by (first | omega | (simp; omega) | (simp; done))) _ (by rfl) ?_
             intro v2 w2 A2 cap2 hv2 hown2 hgr2 hbk2
             subst hv2
             have HB2 : Below (w.heap.size + 1) (w.alloc (.cells #[.int .i64 m.t, .string m.m, .int .i64 m.s, .string m.p] 49)) w2 := by
               refine Below.grown ?_ hgr2 ?_ (fun q hq => own_ge hown1 q hq)
               · (repeat (first | (with_reducible refine below_drew ?_) | (with_reducible refine below_drewN ?_ _) | (with_reducible refine Below.alloc ?_ (by (first | omega | (simp; omega) | (simp; done))) _) | exact HB1))
               · (first | omega | (simp; omega) | (simp; done))
             have z2 : w.heap.size + 1 ≤ w2.heap.size := by have := HB2.size; simpa using this)
          | (refine step_appM (by rfl) (.tmp 24) (.tmp 26) (by rfl) (w.heap.size + 1) (.slice A1 p cap1) p (cellsL (l.take p)) (by rfl) (by (repeat (first | (with_reducible refine own_drew ?_) | (with_reducible refine own_drewN' ?_) | (with_reducible refine World.ownsRow.alloc ?_ _) | exact hown1))) (some ⟨wc.heap.size + 1, 0, none⟩) 1 1 (wc.heap.size + 1 + 1) [m] (by rfl) (by rfl) (MRow.one (by refine (hgr1.block _ (by (first | omega | (simp; omega) | (simp; done))) (by simp [Value.ownBlock])).trans ?_; (repeat (first | (with_reducible refine heap_drew ?_) | (with_reducible refine heap_drewN ?_) | (with_reducible refine newBlk _ _ _ (by (first | omega | (simp; omega) | (simp; done)))) | (with_reducible refine (Below.heap_alloc _ _ _ (by (first | omega | (simp; omega) | (simp; done)))).trans ?_)))) (Nat.lt_succ_self _)) (by omega) (by (first | omega | (simp; omega) | (simp; done))) _ (by rfl) ?_
             intro v2 w2 A2 cap2 hv2 hown2 hgr2 hbk2
             subst hv2
             have HB2 : Below (w.heap.size + 1) (w.alloc (.cells #[.int .i64 m.t, .string m.m, .int .i64 m.s, .string m.p] 49)) w2 := by
               refine Below.grown ?_ hgr2 ?_ (fun q hq => own_ge hown1 q hq)
               · (repeat (first | (with_reducible refine below_drew ?_) | (with_reducible refine below_drewN ?_ _) | (with_reducible refine Below.alloc ?_ (by (first | omega | (simp; omega) | (simp; done))) _) | exact HB1))
               · (first | omega | (simp; omega) | (simp; done))
             have z2 : w.heap.size + 1 ≤ w2.heap.size := by have := HB2.size; simpa using this)
          | (refine step_appM (by rfl) (.tmp 24) (.tmp 26) (by rfl) (w.heap.size + 1) (.slice A1 p cap1) p (cellsL (l.take p)) (by rfl) (by (repeat (first | (with_reducible refine own_drew ?_) | (with_reducible refine own_drewN' ?_) | (with_reducible refine World.ownsRow.alloc ?_ _) | exact hown1))) (some ⟨wc.heap.size, 0, none⟩) 1 1 (wc.heap.size + 1) [m] (by rfl) (by rfl) (MRow.one (by refine (hgr1.block _ (by (first | omega | (simp; omega) | (simp; done))) (by simp [Value.ownBlock])).trans ?_; (repeat (first | (with_reducible refine heap_drew ?_) | (with_reducible refine heap_drewN ?_) | (with_reducible refine newBlk _ _ _ (by (first | omega | (simp; omega) | (simp; done)))) | (with_reducible refine (Below.heap_alloc _ _ _ (by (first | omega | (simp; omega) | (simp; done)))).trans ?_)))) (Nat.lt_succ_self _)) (by omega) (by (first | omega | (simp; omega) | (simp; done))) _ (by rfl) ?_
             intro v2 w2 A2 cap2 hv2 hown2 hgr2 hbk2
             subst hv2
             have HB2 : Below (w.heap.size + 1) (w.alloc (.cells #[.int .i64 m.t, .string m.m, .int .i64 m.s, .string m.p] 49)) w2 := by
               refine Below.grown ?_ hgr2 ?_ (fun q hq => own_ge hown1 q hq)
               · (repeat (first | (with_reducible refine below_drew ?_) | (with_reducible refine below_drewN ?_ _) | (with_reducible refine Below.alloc ?_ (by (first | omega | (simp; omega) | (simp; done))) _) | exact HB1))
               · (first | omega | (simp; omega) | (simp; done))
             have z2 : w.heap.size + 1 ≤ w2.heap.size := by have := HB2.size; simpa using this)
          | (refine step_appM (by rfl) (.tmp 27) (.tmp 30) (by rfl) (w.heap.size + 1) (.slice A2 (p + 1) cap2) (p + 1) (cellsL (l.take p) ++ cellsL [m]) (by rfl) (by (repeat (first | (with_reducible refine own_drew ?_) | (with_reducible refine own_drewN' ?_) | (with_reducible refine World.ownsRow.alloc ?_ _) | exact hown2))) (some ⟨b, o + p * 4, none⟩) (n - p) (cap - p) w.heap.size (l.drop p) (by rfl) (by rw [List.length_drop]; have := HN.out; omega) ((HRB.out _ (by (repeat (first | (with_reducible refine below_drew ?_) | (with_reducible refine below_drewN ?_ _) | (with_reducible refine Below.alloc ?_ (by (first | omega | (simp; omega) | (simp; done))) _) | exact HB2)))).drop p) (by omega) (by (first | omega | (simp; omega) | (simp; done))) _ (by rfl) ?_
             intro v3 w3 A3 cap3 hv3 hown3 hgr3 hbk3
             subst hv3
             have HB3 : Below (w.heap.size + 1) (w.alloc (.cells #[.int .i64 m.t, .string m.m, .int .i64 m.s, .string m.p] 49)) w3 := by
               refine Below.grown ?_ hgr3 ?_ (fun q hq => own_ge hown2 q hq)
               · (repeat (first | (with_reducible refine below_drew ?_) | (with_reducible refine below_drewN ?_ _) | (with_reducible refine Below.alloc ?_ (by (first | omega | (simp; omega) | (simp; done))) _) | exact HB2))
               · (first | omega | (simp; omega) | (simp; done)))
          | fail "no arm")
        all_goals
          go_wp2_with fail
          go_ret
          refine ⟨_, rfl, ?_, ((Below.refl _ _).alloc (Nat.le_refl _) _).trans (HB3.mono (by omega))⟩
          have e2 : (insL l m).length = (p + 1) + (n - p) := by
            have := HN.out
            simp only [insL, HP.out, List.length_append, List.length_take, List.length_drop, List.length_cons, List.length_nil]
            omega
          have e3 : cellsL (insL l m) = cellsL (l.take p) ++ cellsL [m] ++ cellsL (l.drop p) := by simp [insL, HP.out, cellsL]
          rw [e2, e3]
          exact own_base hown3 (by omega)
end Go.Proofs.YtmmjlngbiilagaaGreatDoor

/-
  ALONE: the reference's Merge.
-/
namespace Go.Proofs.YtmmjlngbiilagaaGreatDoor
open Go Go.Conc Go.Shelf Go.RowKit Go.Lib

def rmg (xs : List M4) : List M4 := xs.foldl insL []
theorem rmg_snoc (xs : List M4) (x : M4) : rmg (xs ++ [x]) = insL (rmg xs) x := by simp [rmg]
theorem insL_perm (l : List M4) (m : M4) : List.Perm (insL l m) (m :: l) := by
  unfold insL
  have h : List.Perm (l.take (posL l m) ++ [m] ++ l.drop (posL l m)) (m :: (l.take (posL l m) ++ l.drop (posL l m))) := by
    rw [List.append_assoc]
    exact List.perm_middle
  rwa [List.take_append_drop] at h
theorem rmg_perm (xs : List M4) : List.Perm (rmg xs) xs := by
  have key : ∀ (xs l : List M4), List.Perm (xs.foldl insL l) (l ++ xs) := by
    intro xs
    induction xs with
    | nil => intro l; simp
    | cons x xs ih =>
      intro l
      refine (ih (insL l x)).trans (((insL_perm l x).append_right xs).trans ?_)
      rw [List.cons_append]
      exact List.perm_middle.symm
  simpa [rmg] using key xs []
theorem rmg_length (xs : List M4) : (rmg xs).length = xs.length := (rmg_perm xs).length_eq
theorem cellsL_get : ∀ {ms : List M4} {j r : Nat} {x : M4}, ms[j]? = some x → r < 4 → (cellsL ms)[j * 4 + r]? = x.cells[r]? := by
  intro ms
  induction ms with
  | nil => intro j r x h; cases h
  | cons y ms ih =>
    intro j r x h hr
    have e : cellsL (y :: ms) = y.cells ++ cellsL ms := by simp [cellsL]
    have hl : y.cells.length = 4 := rfl
    rw [e]
    cases j with
    | zero =>
      cases h
      rw [List.getElem?_append_left (by omega)]
      simp
    | succ j =>
      rw [List.getElem?_append_right (by omega), hl]
      have e2 : (j + 1) * 4 + r - 4 = j * 4 + r := by omega
      rw [e2]
      exact ih (by simpa using h) hr
/-- A row of the call's own reads as messages. -/
theorem row_own {w : World} {base : Nat} {e : TypeId} {v : Value} {ms : List M4} (h : w.ownsRow base e 4 v ms.length (cellsL ms)) (h0 : ms ≠ []) :
    ∃ g cap, v = .slice (some ⟨g, 0, none⟩) ms.length cap ∧ base ≤ g ∧ g < w.heap.size ∧ ms.length ≤ cap ∧ MRow w w.heap.size (some ⟨g, 0, none⟩) ms := by
  rcases h.2 with ⟨_, hn⟩ | ⟨g, cap, cur, rfl, hb, hh, hnc, _, hsz, ht⟩
  · exact absurd (List.length_eq_zero_iff.1 hn) h0
  · have hg : g < w.heap.size := heap_lt hh
    refine ⟨g, cap, rfl, hb, hg, hnc, .inr ⟨g, 0, rfl, hg, fun j x hx => ?_⟩⟩
    have hj : j < ms.length := (List.getElem?_eq_some_iff.1 hx).1
    have key : ∀ r, r < 4 → w.cell? ⟨g, 0 + j * 4 + r, none⟩ = x.cells[r]? := fun r hr => by
      rw [cell_of_row w g _ _ _ _ hh, ← cellsL_get hx hr, ← ht, List.getElem?_take, if_pos (by omega)]
      simp
    exact ⟨key 0 (by omega), key 1 (by omega), key 2 (by omega), key 3 (by omega)⟩
/-- What Merge has built so far. -/
def OutR (u : World) (base : Nat) (v : Value) (l : List M4) : Prop := (l = [] ∧ v = .slice none 0 0) ∨ (l ≠ [] ∧ u.ownsRow base 49 4 v l.length (cellsL l))
theorem OutR.sl {u : World} {base : Nat} {v : Value} {l : List M4} (h : OutR u base v l) : ∃ A cap, v = .slice A l.length cap ∧ l.length ≤ cap ∧ (l = [] → A = none ∧ cap = 0) ∧ MRow u u.heap.size A l := by
  rcases h with ⟨rfl, rfl⟩ | ⟨h0, h⟩
  · exact ⟨none, 0, rfl, Nat.le_refl _, fun _ => ⟨rfl, rfl⟩, .inl rfl⟩
  · obtain ⟨g, cap, rfl, _, _, h1, h2⟩ := row_own h h0
    exact ⟨_, cap, rfl, h1, fun e => absurd e h0, h2⟩
def MrgRes (xs : List M4) (w : World) (e : Ending) (w' : World) : Prop := ∃ v, e = .returned v ∧ OutR w' w.heap.size v (rmg xs) ∧ Below w.heap.size w w'
theorem flat_take_succ {L : List Strm} {k : Nat} {x : Strm} (h : L[k]? = some x) : (L.take (k + 1)).flatMap (fun x => x.ms) = (L.take k).flatMap (fun x => x.ms) ++ x.ms := by
  obtain ⟨hl, e⟩ := List.getElem?_eq_some_iff.1 h
  rw [List.take_succ_eq_append_getElem hl, List.flatMap_append, e]
  simp
theorem tot_flat (L : List Strm) : (L.flatMap fun x => x.ms).length = tot L := by simp [tot, List.length_flatMap]
set_option maxRecDepth 100000 in
set_option maxHeartbeats 4000000 in
theorem merge50_calls (A : Option Addr) (n cap : Nat) (L : List Strm) (w : World) (hS : SRow w w.heap.size A L) (hn : L.length = n) (hf : Fits L) (hsz : ∀ x ∈ L, ∀ y ∈ x.ms, y.m.size ≤ maxLen) :
    Calls Vh 11 #[.slice A n cap] w (MrgRes (L.flatMap fun x => x.ms) w) := by
  have hF : Vh.funcs[11]? = some Tryz.f11 := Vh.fn Tryz.func11 (by kernel_rfl)
  have e1 := enterV Tryz.func23 (by kernel_rfl) (by kernel_rfl) rfl
  have hn40 : n ≤ 40 := by have := hf.1; omega
  have HS := Lib.hid hS
  have HN := Lib.hid hn
  have HF := Lib.hid hf
  have HZ := Lib.hid hsz
  clear hS hn hf hsz
  go_enter hF, Tryz.ntmps11
  go_wp2
  go_loopw [3, 4] (fun out i u => ∃ k : Nat, k ≤ n ∧ i = .int .i64 k ∧ Below w.heap.size w u ∧ OutR u w.heap.size out (rmg ((L.take k).flatMap fun x => x.ms))) (fun _ i _ => n - (intOf i).toNat)
  case atStart => exact ⟨0, Nat.zero_le _, rfl, Below.refl _ _, .inl ⟨rfl, rfl⟩⟩
  case round =>
    obtain ⟨k, hk, rfl, hb, ho⟩ := hrel
    by_cases hlt : k < n
    · obtain ⟨x, hx⟩ : ∃ x, L[k]? = some x := ⟨_, List.getElem?_eq_getElem (by have := HN.out; omega)⟩
      have hfl := flat_take_succ hx
      have hle : (((L.take k).flatMap fun x => x.ms) ++ x.ms).length ≤ 300 := by
        rw [← hfl, tot_flat]
        exact Nat.le_trans (tot_take_le _ _) HF.out.2
      have hx3 : x.ms.length ≤ 300 := by rw [List.length_append] at hle; omega
      have HB := Lib.hid hb
      have HO := Lib.hid ho
      have HX := Lib.hid hx
      have HFL := Lib.hid hfl
      clear hb ho hx hfl
      generalize ((L.take k).flatMap fun x => x.ms) = pre at *
      go_wp2
      go_loopw [3, 5] (fun out i u => ∃ q : Nat, q ≤ x.ms.length ∧ i = .int .i64 q ∧ Below w.heap.size w u ∧ OutR u w.heap.size out (rmg (pre ++ x.ms.take q))) (fun _ i _ => x.ms.length - (intOf i).toNat)
      case atStart => exact ⟨0, Nat.zero_le _, rfl, HB.out, by simpa using HO.out⟩
      case round =>
        obtain ⟨q, hq, rfl, hb2, ho2⟩ := hrel
        obtain ⟨b, o, rfl, hbB, m0, A', cap', m1, hm⟩ := (HS.out.below hb2).at_ HX.out
        by_cases hql : q < x.ms.length
        · obtain ⟨y, hy⟩ : ∃ y, x.ms[q]? = some y := ⟨_, List.getElem?_eq_getElem hql⟩
          obtain ⟨b2, o2, rfl, hbB2, y0, y1, y2, y3⟩ := hm.at_ hy
          obtain ⟨A3, cap3, rfl, hc3, h30, hrow⟩ := ho2.sl
          have hl3 : (rmg (pre ++ x.ms.take q)).length ≤ 300 := by
            rw [rmg_length]
            simp only [List.length_append, List.length_take] at hle ⊢
            omega
          have hs3 : ∀ z ∈ rmg (pre ++ x.ms.take q), z.m.size ≤ maxLen := fun z hz => by
            have hz' := (rmg_perm _).mem_iff.1 hz
            have : z ∈ (L.take (k + 1)).flatMap (fun x => x.ms) := by
              rw [HFL.out]
              rcases List.mem_append.1 hz' with h | h
              · exact List.mem_append_left _ h
              · exact List.mem_append_right _ (List.mem_of_mem_take h)
            obtain ⟨s, hs, hzs⟩ := List.mem_flatMap.1 this
            exact HZ.out s (List.mem_of_mem_take hs) z hzs
          have hsy : y.m.size ≤ maxLen := HZ.out x (List.mem_of_getElem? HX.out) y (List.mem_of_getElem? hy)
          have hins := fun (W : World) (h : MRow W W.heap.size A3 (rmg (pre ++ x.ms.take q))) => insert_calls A3 _ cap3 (rmg (pre ++ x.ms.take q)) y W h rfl hc3 hl3 h30 hs3 hsy
          have hnx : rmg (pre ++ x.ms.take (q + 1)) = insL (rmg (pre ++ x.ms.take q)) y := by
            obtain ⟨hl, e⟩ := List.getElem?_eq_some_iff.1 hy
            rw [List.take_succ_eq_append_getElem hl, ← List.append_assoc, rmg_snoc, e]
          have HNX := Lib.hid hnx
          have HR := Lib.hid hrow
          have HB2 := Lib.hid hb2
          have hszw := hb2.size
          clear hnx hrow hb2 ho2 hm hy hs3 hsy h30 hle
          generalize rmg (pre ++ x.ms.take q) = l at *
          go_wp2_with (go_at_call 23; refine (hins _ HR.out).mono ?_; rintro e w' ⟨v, rfl, hown, hbw⟩; have HBW := Lib.hid hbw; have HOW := Lib.hid hown; have hszw' := hbw.size; clear hbw hown)
          go_roundw
          case rel =>
            refine ⟨q + 1, by omega, by go_num, HB2.out.trans (HBW.out.mono (by omega)), ?_⟩
            rw [HNX.out]
            refine .inr ⟨fun e => ?_, own_base HOW.out (by omega)⟩
            have := (insL_perm l y).length_eq
            rw [e] at this
            simp at this
          case measure => simp [intOf]; omega
        · have hqe : q = x.ms.length := by omega
          have HB2 := Lib.hid hb2
          have HO2 := Lib.hid ho2
          clear hb2 ho2 hm hle
          go_wp2
          go_roundw
          case rel =>
            refine ⟨k + 1, by omega, by go_num, HB2.out, ?_⟩
            have := HO2.out
            rw [hqe, List.take_of_length_le (Nat.le_refl _)] at this
            rw [HFL.out]
            exact this
          case measure => simp [intOf]; omega
    · have hkn : k = n := by omega
      subst hkn
      have HB := Lib.hid hb
      have HO := Lib.hid ho
      clear hb ho
      go_wp2
      go_ret
      have h := HO.out
      rw [List.take_of_length_le (by rw [HN.out]; exact Nat.le_refl _)] at h
      exact ⟨_, rfl, h, HB.out⟩
end Go.Proofs.YtmmjlngbiilagaaGreatDoor

/-
  ALONE: strconv.Itoa at small numbers (that it returns a string), by the shelf's parts; Invalid.Error.
-/
namespace Go.Proofs.YtmmjlngbiilagaaGreatDoor
open Go Go.Conc Go.Shelf Go.RowKit Go.Lib Go.Sort

section
variable {P : Program} {keep : Nat → Bool}
theorem pr_n283 {ρ : Ren} (hk : ∀ n ∈ [283], keep (ρ.f n) = true) (h : Lays.n283 P ρ) : Lays.n283 (prunedOf P keep) ρ where
  mixed := (congrArg (fun T : Tables => T.follows Departure.mixedOrders) (pr_tables (P := P) (keep := keep))).trans h.mixed
  f283 := pr_func (hk _ (by simp)) h.f283
  t3 := (pr_und _).trans h.t3
  a3 := fun w => (pr_isAgg ..).trans (h.a3 w)
  z3 := fun w => (pr_sizeOf ..).trans (h.z3 w)
  v3 := fun w => (pr_zeroValue ..).trans (h.v3 w)
  t4 := (pr_und _).trans h.t4
  a4 := fun w => (pr_isAgg ..).trans (h.a4 w)
  z4 := fun w => (pr_sizeOf ..).trans (h.z4 w)
  v4 := fun w => (pr_zeroValue ..).trans (h.v4 w)
  t9 := (pr_und _).trans h.t9
  a9 := fun w => (pr_isAgg ..).trans (h.a9 w)
  z9 := fun w => (pr_sizeOf ..).trans (h.z9 w)
  v9 := fun w => (pr_zeroValue ..).trans (h.v9 w)

theorem pr_n284 {ρ : Ren} (hk : ∀ n ∈ [129, 284, 317, 318], keep (ρ.f n) = true) (h : Lays.n284 P ρ) : Lays.n284 (prunedOf P keep) ρ where
  mixed := (congrArg (fun T : Tables => T.follows Departure.mixedOrders) (pr_tables (P := P) (keep := keep))).trans h.mixed
  f129 := pr_func (hk _ (by simp)) h.f129
  f284 := pr_func (hk _ (by simp)) h.f284
  f317 := pr_func (hk _ (by simp)) h.f317
  f318 := pr_func (hk _ (by simp)) h.f318
  t0 := (pr_und _).trans h.t0
  a0 := fun w => (pr_isAgg ..).trans (h.a0 w)
  z0 := fun w => (pr_sizeOf ..).trans (h.z0 w)
  v0 := fun w => (pr_zeroValue ..).trans (h.v0 w)
  t3 := (pr_und _).trans h.t3
  a3 := fun w => (pr_isAgg ..).trans (h.a3 w)
  z3 := fun w => (pr_sizeOf ..).trans (h.z3 w)
  v3 := fun w => (pr_zeroValue ..).trans (h.v3 w)
  t4 := (pr_und _).trans h.t4
  a4 := fun w => (pr_isAgg ..).trans (h.a4 w)
  z4 := fun w => (pr_sizeOf ..).trans (h.z4 w)
  v4 := fun w => (pr_zeroValue ..).trans (h.v4 w)
  t5 := (pr_und _).trans h.t5
  a5 := fun w => (pr_isAgg ..).trans (h.a5 w)
  z5 := fun w => (pr_sizeOf ..).trans (h.z5 w)
  v5 := fun w => (pr_zeroValue ..).trans (h.v5 w)
  t9 := (pr_und _).trans h.t9
  a9 := fun w => (pr_isAgg ..).trans (h.a9 w)
  z9 := fun w => (pr_sizeOf ..).trans (h.z9 w)
  v9 := fun w => (pr_zeroValue ..).trans (h.v9 w)
  t46 := (pr_und _).trans h.t46
  a46 := fun w => (pr_isAgg ..).trans (h.a46 w)
  z46 := fun w => (pr_sizeOf ..).trans (h.z46 w)
  v46 := fun w => (pr_zeroValue ..).trans (h.v46 w)
  t53 := (pr_und _).trans h.t53
  a53 := fun w => (pr_isAgg ..).trans (h.a53 w)
  z53 := fun w => (pr_sizeOf ..).trans (h.z53 w)
  v53 := fun w => (pr_zeroValue ..).trans (h.v53 w)
  t212 := (pr_und _).trans h.t212
  a212 := fun w => (pr_isAgg ..).trans (h.a212 w)
  z212 := fun w => (pr_sizeOf ..).trans (h.z212 w)
  v212 := fun w => (pr_zeroValue ..).trans (h.v212 w)
  g17 := h.g17
theorem pr_n285 {ρ : Ren} (hk : ∀ n ∈ [285], keep (ρ.f n) = true) (h : Lays.n285 P ρ) : Lays.n285 (prunedOf P keep) ρ where
  mixed := (congrArg (fun T : Tables => T.follows Departure.mixedOrders) (pr_tables (P := P) (keep := keep))).trans h.mixed
  f285 := pr_func (hk _ (by simp)) h.f285
  t0 := (pr_und _).trans h.t0
  a0 := fun w => (pr_isAgg ..).trans (h.a0 w)
  z0 := fun w => (pr_sizeOf ..).trans (h.z0 w)
  v0 := fun w => (pr_zeroValue ..).trans (h.v0 w)
  t3 := (pr_und _).trans h.t3
  a3 := fun w => (pr_isAgg ..).trans (h.a3 w)
  z3 := fun w => (pr_sizeOf ..).trans (h.z3 w)
  v3 := fun w => (pr_zeroValue ..).trans (h.v3 w)
  t4 := (pr_und _).trans h.t4
  a4 := fun w => (pr_isAgg ..).trans (h.a4 w)
  z4 := fun w => (pr_sizeOf ..).trans (h.z4 w)
  v4 := fun w => (pr_zeroValue ..).trans (h.v4 w)
  t5 := (pr_und _).trans h.t5
  a5 := fun w => (pr_isAgg ..).trans (h.a5 w)
  z5 := fun w => (pr_sizeOf ..).trans (h.z5 w)
  v5 := fun w => (pr_zeroValue ..).trans (h.v5 w)
  t9 := (pr_und _).trans h.t9
  a9 := fun w => (pr_isAgg ..).trans (h.a9 w)
  z9 := fun w => (pr_sizeOf ..).trans (h.z9 w)
  v9 := fun w => (pr_zeroValue ..).trans (h.v9 w)
  t37 := (pr_und _).trans h.t37
  a37 := fun w => (pr_isAgg ..).trans (h.a37 w)
  z37 := fun w => (pr_sizeOf ..).trans (h.z37 w)
  v37 := fun w => (pr_zeroValue ..).trans (h.v37 w)
  t51 := (pr_und _).trans h.t51
  a51 := fun w => (pr_isAgg ..).trans (h.a51 w)
  z51 := fun w => (pr_sizeOf ..).trans (h.z51 w)
  v51 := fun w => (pr_zeroValue ..).trans (h.v51 w)
  t53 := (pr_und _).trans h.t53
  a53 := fun w => (pr_isAgg ..).trans (h.a53 w)
  z53 := fun w => (pr_sizeOf ..).trans (h.z53 w)
  v53 := fun w => (pr_zeroValue ..).trans (h.v53 w)

theorem pr_m284 {ρ : Ren} (hk : ∀ n ∈ [129, 284, 317, 318], keep (ρ.f n) = true) (h : LaysM.n284 P ρ) : LaysM.n284 (prunedOf P keep) ρ :=
  { pr_n284 hk h.ton284 with
    i0 := h.i0
    i3 := h.i3
    i4 := h.i4
    i5 := h.i5
    i9 := h.i9
    i46 := h.i46
    i53 := h.i53
    i212 := h.i212
    m17 := h.m17
  }
end
def smT_ren : Go.Shelf.Ren := ⟨fun | 283 => 89 | n => n, fun | 3 => 3 | 9 => 9 | 4 => 4 | n => n, fun | n => n⟩
theorem smT : Go.Proofs.Lays.n283 Tryz.prog smT_ren := {
  mixed := by kernel_rfl
  f283 := Tryz.func89.trans (congrArg some (by kernel_rfl))
  t3 := Tryz.underlying3
  a3 := Tryz.isAgg3
  z3 := Tryz.sizeOf3
  v3 := Tryz.zeroValue3
  t4 := Tryz.underlying4
  a4 := Tryz.isAgg4
  z4 := Tryz.sizeOf4
  v4 := Tryz.zeroValue4
  t9 := Tryz.underlying9
  a9 := Tryz.isAgg9
  z9 := Tryz.sizeOf9
  v9 := Tryz.zeroValue9 }
def ndT_ren : Go.Shelf.Ren := ⟨fun | 284 => 90 | 129 => 80 | 317 => 103 | 318 => 104 | n => n, fun | 53 => 86 | 3 => 3 | 212 => 178 | 0 => 0 | 4 => 4 | 46 => 122 | 5 => 5 | 9 => 9 | n => n, fun | 17 => 2 | n => n⟩
theorem ndT : Go.Proofs.LaysM.n284 Tryz.prog ndT_ren := {
  mixed := by kernel_rfl
  f129 := Tryz.func80.trans (congrArg some (by kernel_rfl))
  f284 := Tryz.func90.trans (congrArg some (by kernel_rfl))
  f317 := Tryz.func103.trans (congrArg some (by kernel_rfl))
  f318 := Tryz.func104.trans (congrArg some (by kernel_rfl))
  t0 := Tryz.underlying0
  a0 := Tryz.isAgg0
  z0 := Tryz.sizeOf0
  v0 := Tryz.zeroValue0
  t3 := Tryz.underlying3
  a3 := Tryz.isAgg3
  z3 := Tryz.sizeOf3
  v3 := Tryz.zeroValue3
  t4 := Tryz.underlying4
  a4 := Tryz.isAgg4
  z4 := Tryz.sizeOf4
  v4 := Tryz.zeroValue4
  t5 := Tryz.underlying5
  a5 := Tryz.isAgg5
  z5 := Tryz.sizeOf5
  v5 := Tryz.zeroValue5
  t9 := Tryz.underlying9
  a9 := Tryz.isAgg9
  z9 := Tryz.sizeOf9
  v9 := Tryz.zeroValue9
  t46 := Tryz.underlying122
  a46 := Tryz.isAgg122
  z46 := Tryz.sizeOf122
  v46 := Tryz.zeroValue122
  t53 := Tryz.underlying86
  a53 := Tryz.isAgg86
  z53 := Tryz.sizeOf86
  v53 := Tryz.zeroValue86
  t212 := Tryz.underlying178
  a212 := Tryz.isAgg178
  z212 := Tryz.sizeOf178
  v212 := Tryz.zeroValue178
  g17 := by kernel_rfl
  i0 := by kernel_rfl
  i3 := by kernel_rfl
  i4 := by kernel_rfl
  i5 := by kernel_rfl
  i9 := by kernel_rfl
  i46 := by kernel_rfl
  i53 := by kernel_rfl
  i212 := by kernel_rfl
  m17 := by kernel_rfl }
def fbT_ren : Go.Shelf.Ren := ⟨fun | 285 => 91 | n => n, fun | 37 => 164 | 53 => 86 | 3 => 3 | 4 => 4 | 51 => 89 | 9 => 9 | 5 => 5 | 0 => 0 | n => n, fun | n => n⟩
theorem fbT : Go.Proofs.Lays.n285 Tryz.prog fbT_ren := {
  mixed := by kernel_rfl
  f285 := Tryz.func91.trans (congrArg some (by kernel_rfl))
  t0 := Tryz.underlying0
  a0 := Tryz.isAgg0
  z0 := Tryz.sizeOf0
  v0 := Tryz.zeroValue0
  t3 := Tryz.underlying3
  a3 := Tryz.isAgg3
  z3 := Tryz.sizeOf3
  v3 := Tryz.zeroValue3
  t4 := Tryz.underlying4
  a4 := Tryz.isAgg4
  z4 := Tryz.sizeOf4
  v4 := Tryz.zeroValue4
  t5 := Tryz.underlying5
  a5 := Tryz.isAgg5
  z5 := Tryz.sizeOf5
  v5 := Tryz.zeroValue5
  t9 := Tryz.underlying9
  a9 := Tryz.isAgg9
  z9 := Tryz.sizeOf9
  v9 := Tryz.zeroValue9
  t37 := Tryz.underlying164
  a37 := Tryz.isAgg164
  z37 := Tryz.sizeOf164
  v37 := Tryz.zeroValue164
  t51 := Tryz.underlying89
  a51 := Tryz.isAgg89
  z51 := Tryz.sizeOf89
  v51 := Tryz.zeroValue89
  t53 := Tryz.underlying86
  a53 := Tryz.isAgg86
  z53 := Tryz.sizeOf86
  v53 := Tryz.zeroValue86 }
theorem smKept : [283].all (fun n => keptH (smT_ren.f n)) = true := by kernel_rfl
theorem ndKept : [129, 284, 317, 318].all (fun n => keptH (ndT_ren.f n)) = true := by kernel_rfl
theorem fbKept : [285].all (fun n => keptH (fbT_ren.f n)) = true := by kernel_rfl
theorem smV : Lays.n283 Vh smT_ren := pr_n283 (fun n hn => List.all_eq_true.1 smKept n hn) smT
theorem ndV : LaysM.n284 Vh ndT_ren := pr_m284 (fun n hn => List.all_eq_true.1 ndKept n hn) ndT
theorem fbV : Lays.n285 Vh fbT_ren := pr_n285 (fun n hn => List.all_eq_true.1 fbKept n hn) fbT
theorem small_calls (i : Nat) (h : i < 100) (w : World) : Calls Vh 89 #[.int .i64 i] w fun e w' => e = .returned (.string ⟨(Lib.decDigits i).toArray⟩) ∧ w' = w := Any.internal_strconv_small smV i h w
theorem digits_calls (u : Nat) (h1 : 1 ≤ u) (h2 : u < 18446744073709551616) (w : World) (htab : Lib.TabIs Vh w "internal/strconv.uint64pow10" .u64 Lib.pow10Tab) :
    Calls Vh 90 #[.int .u64 u] w fun e w' => e = .returned (.int .i64 (Lib.nDigits u)) ∧ w' = w := Any.internal_strconv_numDigits ndV u h1 h2 w htab
theorem base10_calls (blk off cap u : Nat) (d : Array UInt8) (w : World) (hH : Holds (fun (b : UInt8) => Value.int .u8 (b.toNat : Int)) w blk off d) (hu : u < 10 ^ d.size) (hu64 : u < 18446744073709551616) (hsz : d.size < 4611686018427387904) :
    Calls Vh 91 #[.slice (some ⟨blk, off, none⟩) d.size cap, .int .u64 u] w fun e w' =>
      e = .returned (.tuple #[]) ∧ ∃ (n v' : Nat) (dk : Array UInt8), w' = (putRow (fun (b : UInt8) => Value.int .u8 (b.toNat : Int)) w blk off dk).drewN n ∧ FmtInv d.size u 0 v' dk := Any.internal_strconv_formatBase10 fbV blk off cap u d w hH hu hu64 hsz
/-- A string came back. -/
def StrRes (w : World) (e : Ending) (w' : World) : Prop := ∃ s : ByteArray, e = .returned (.string s) ∧ s.size ≤ 24 ∧ Below w.heap.size w w'
end Go.Proofs.YtmmjlngbiilagaaGreatDoor
