/-
  Comparing at the sort's program: strings.Compare, cmp.Compare, by the shelf; the facts that walks at it want.
-/
import Derived.Test.YtmmjlngbiilagaaGreatDoorT12
import Derived.Shelf.Small.Strs
import Derived.Shelf.Small.Wraps
import Derived.Shelf.Lay
import Derived.Ground.NamesProg
import Derived.WalkKit
import Derived.WalkSpells
import Derived.WalkLawsBesides
import Derived.LoopTactic
import Derived.StillTailTactics
import Derived.Shelf.SlSortCmp.NoneTotal
import Derived.Conc.Own4

namespace Go.Proofs.YtmmjlngbiilagaaGreatDoor
open Go Go.Conc Go.Shelf Go.RowKit Go.Lib Go.Sort

section
variable {P : Program} {keep : Nat → Bool}
theorem pr_n106 {ρ : Ren} (hk : ∀ n ∈ [106, 213, 265], keep (ρ.f n) = true) (h : Lays.n106 P ρ) : Lays.n106 (prunedOf P keep) ρ where
  mixed := (congrArg (fun T : Tables => T.follows Departure.mixedOrders) (pr_tables (P := P) (keep := keep))).trans h.mixed
  f106 := pr_func (hk _ (by simp)) h.f106
  f213 := pr_func (hk _ (by simp)) h.f213
  f265 := pr_func (hk _ (by simp)) h.f265
  t3 := (pr_und _).trans h.t3
  a3 := fun w => (pr_isAgg ..).trans (h.a3 w)
  z3 := fun w => (pr_sizeOf ..).trans (h.z3 w)
  v3 := fun w => (pr_zeroValue ..).trans (h.v3 w)
  t9 := (pr_und _).trans h.t9
  a9 := fun w => (pr_isAgg ..).trans (h.a9 w)
  z9 := fun w => (pr_sizeOf ..).trans (h.z9 w)
  v9 := fun w => (pr_zeroValue ..).trans (h.v9 w)
theorem pr_n122 {ρ : Ren} (hk : ∀ n ∈ [122, 215], keep (ρ.f n) = true) (h : Lays.n122 P ρ) : Lays.n122 (prunedOf P keep) ρ where
  mixed := (congrArg (fun T : Tables => T.follows Departure.mixedOrders) (pr_tables (P := P) (keep := keep))).trans h.mixed
  f122 := pr_func (hk _ (by simp)) h.f122
  f215 := pr_func (hk _ (by simp)) h.f215
  t3 := (pr_und _).trans h.t3
  a3 := fun w => (pr_isAgg ..).trans (h.a3 w)
  z3 := fun w => (pr_sizeOf ..).trans (h.z3 w)
  v3 := fun w => (pr_zeroValue ..).trans (h.v3 w)
  t4 := (pr_und _).trans h.t4
  a4 := fun w => (pr_isAgg ..).trans (h.a4 w)
  z4 := fun w => (pr_sizeOf ..).trans (h.z4 w)
  v4 := fun w => (pr_zeroValue ..).trans (h.v4 w)
end
def scT_ren : Go.Shelf.Ren := ⟨fun | 106 => 57 | 213 => 82 | 265 => 99 | n => n, fun | 9 => 9 | 3 => 3 | n => n, fun | n => n⟩
theorem scT : Go.Proofs.Lays.n106 Tryz.prog scT_ren := {
  mixed := by kernel_rfl
  f106 := Tryz.func57.trans (congrArg some (by kernel_rfl))
  f213 := Tryz.func82.trans (congrArg some (by kernel_rfl))
  f265 := Tryz.func99.trans (congrArg some (by kernel_rfl))
  t3 := Tryz.underlying3
  a3 := Tryz.isAgg3
  z3 := Tryz.sizeOf3
  v3 := Tryz.zeroValue3
  t9 := Tryz.underlying9
  a9 := Tryz.isAgg9
  z9 := Tryz.sizeOf9
  v9 := Tryz.zeroValue9 }
def ciT_ren : Go.Shelf.Ren := ⟨fun | 122 => 56 | 215 => 81 | n => n, fun | 3 => 3 | 4 => 4 | n => n, fun | n => n⟩
theorem ciT : Go.Proofs.Lays.n122 Tryz.prog ciT_ren := {
  mixed := by kernel_rfl
  f122 := Tryz.func56.trans (congrArg some (by kernel_rfl))
  f215 := Tryz.func81.trans (congrArg some (by kernel_rfl))
  t3 := Tryz.underlying3
  a3 := Tryz.isAgg3
  z3 := Tryz.sizeOf3
  v3 := Tryz.zeroValue3
  t4 := Tryz.underlying4
  a4 := Tryz.isAgg4
  z4 := Tryz.sizeOf4
  v4 := Tryz.zeroValue4 }
theorem scKept : [106, 213, 265].all (fun n => keptS (scT_ren.f n)) = true := by kernel_rfl
theorem ciKept : [122, 215].all (fun n => keptS (ciT_ren.f n)) = true := by kernel_rfl
theorem scV : Lays.n106 (prunedOf Tryz.prog keptS) scT_ren := pr_n106 (fun n hn => List.all_eq_true.1 scKept n hn) scT
theorem ciV : Lays.n122 (prunedOf Tryz.prog keptS) ciT_ren := pr_n122 (fun n hn => List.all_eq_true.1 ciKept n hn) ciT
theorem sc_calls (a b : ByteArray) (w : World) : Calls (prunedOf Tryz.prog keptS) 57 #[.string a, .string b] w fun e w' => e = .returned (.int .i64 (Lib.compareBytes a.data.toList b.data.toList)) ∧ w' = w := Any.strings_Compare scV a b w
theorem ci_calls (x y : Int) (w : World) : Calls (prunedOf Tryz.prog keptS) 56 #[.int .i64 x, .int .i64 y] w fun e w' => e = .returned (.int .i64 (Lib.compareInt x y)) ∧ w' = w := Any.cmp_Compare_int ciV x y w
end Go.Proofs.YtmmjlngbiilagaaGreatDoor

/-
  cmp.Or over three numbers, alone, at the sort's program.
-/
namespace Go.Proofs.YtmmjlngbiilagaaGreatDoor
open Go Go.Conc Go.Shelf Go.RowKit Go.Lib Go.Sort

noncomputable abbrev SvP : Program := prunedOf Tryz.prog keptS
theorem SvP.fn {f : Nat} {fn : Func} (h : Tryz.prog.funcs[f]? = some fn) (hk : keptS f = true) : SvP.funcs[f]? = some fn := pr_func hk h
attribute [simp] pr_sizeOf pr_zeroValue pr_isAgg pr_typeInfo pr_underlying pr_und pr_tables
/-- The first that is not 0. -/
def fnz : List Int → Int
  | [] => 0
  | c :: cs => if c = 0 then fnz cs else c
set_option maxRecDepth 100000 in
set_option maxHeartbeats 1000000 in
theorem or_calls (g : Nat) (c : Nat → Int) (w : World) (h : ∀ j, j < 3 → w.cell? ⟨g, j, none⟩ = some (.int .i64 (c j))) :
    Calls SvP 55 #[.slice (some ⟨g, 0, none⟩) 3 3] w fun e w' => e = .returned (.int .i64 (fnz [c 0, c 1, c 2])) ∧ w' = w := by
  have hF : SvP.funcs[55]? = some Tryz.f55 := SvP.fn Tryz.func55 (by kernel_rfl)
  go_enter hF, Tryz.ntmps55
  go_wp2
  go_loop [8] (fun i => ∃ k : Nat, k ≤ 3 ∧ i = .int .i64 k ∧ ∀ j, j < k → c j = 0) (fun i => 3 - (intOf i).toNat)
  case atStart => exact ⟨0, Nat.zero_le _, rfl, fun j hj => absurd hj (Nat.not_lt_zero j)⟩
  case round =>
    obtain ⟨k, hk, rfl, hz⟩ := hrel
    by_cases hlt : k < 3
    · have hcell : w.cell? ⟨g, k, none⟩ = some (.int .i64 (c k)) := h k hlt
      have hk0 : ((k : Int) < 3) = True := by simp; omega
      go_wp2
      · rename_i hq _
        have hq : c k ≠ 0 := by simpa using hq
        go_ret
        refine ⟨?_, rfl⟩
        obtain rfl | rfl | rfl : k = 0 ∨ k = 1 ∨ k = 2 := by omega
        · simp [fnz, hq]
        · simp [fnz, hq, hz 0 (by omega)]
        · simp [fnz, hq, hz 0 (by omega), hz 1 (by omega)]
      · have hq : c k = 0 := by simpa using (by assumption : (c k != 0) = false)
        refine ⟨⟨k + 1, by omega, by simp, fun j hj => ?_⟩, by simp [intOf]; omega⟩
        by_cases e : j = k
        · subst e; exact hq
        · exact hz j (by omega)
    · have : k = 3 := by omega
      subst this
      go_wp2
      go_ret
      refine ⟨?_, rfl⟩
      simp [fnz, hz 0 (by omega), hz 1 (by omega), hz 2 (by omega)]
end Go.Proofs.YtmmjlngbiilagaaGreatDoor

/-
  Compare of two messages, alone, at the sort's program.
-/
namespace Go.Proofs.YtmmjlngbiilagaaGreatDoor
open Go Go.Conc Go.Shelf Go.RowKit Go.Lib Go.Sort

theorem two_new (w : World) (o1 o2 : Obj) : ({ (w.alloc o1).alloc o2 with drawn := ((w.alloc o1).alloc o2).drawn + 1 } : World) = grow (w.drewN 1) #[o1, o2] := by
  rw [alloc_eq_grow, alloc_eq_grow, grow_grow]
  rfl
theorem or_new (r1 r2 r3 : Int) (D : World) : Calls SvP 55 #[.slice (some ⟨D.heap.size, 0, none⟩) 3 3] (D.alloc (Obj.cells #[.int .i64 r1, .int .i64 r2, .int .i64 r3] 3)) fun e w' => e = .returned (.int .i64 (fnz [r1, r2, r3])) ∧ w' = D.alloc (Obj.cells #[.int .i64 r1, .int .i64 r2, .int .i64 r3] 3) := by
  have hb : (D.alloc (Obj.cells #[.int .i64 r1, .int .i64 r2, .int .i64 r3] 3)).heap[D.heap.size]? = some (Obj.cells #[.int .i64 r1, .int .i64 r2, .int .i64 r3] 3) := heap_alloc_new D _
  refine or_calls D.heap.size (fun j => match j with | 0 => r1 | 1 => r2 | _ => r3) _ fun j hj => ?_
  obtain rfl | rfl | rfl : j = 0 ∨ j = 1 ∨ j = 2 := by omega
  all_goals simp only [World.cell?, hb] <;> rfl
set_option maxRecDepth 100000 in
set_option maxHeartbeats 2000000 in
theorem compare_calls (t1 t2 s1 s2 : Int) (m1 m2 p1 p2 : ByteArray) (w : World) :
    Calls SvP 32 #[.agg #[.int .i64 t1, .string m1, .int .i64 s1, .string p1], .agg #[.int .i64 t2, .string m2, .int .i64 s2, .string p2]] w fun e w' => e = .returned (.int .i64 (fnz [Lib.compareInt t1 t2, Lib.compareBytes m1.data.toList m2.data.toList, Lib.compareInt s1 s2])) ∧ ∃ q os', w' = grow (w.drewN q) os' := by
  have hF : SvP.funcs[32]? = some Tryz.f32 := SvP.fn Tryz.func32 (by kernel_rfl)
  have e56 : ∀ args w, (callFunc 56 args).run SvP w = .ok (.enter 56 args) w := enters_of (SvP.fn Tryz.func56 (by kernel_rfl)) (by kernel_rfl) rfl
  have e57 : ∀ args w, (callFunc 57 args).run SvP w = .ok (.enter 57 args) w := enters_of (SvP.fn Tryz.func57 (by kernel_rfl)) (by kernel_rfl) rfl
  have e55 : ∀ args w, (callFunc 55 args).run SvP w = .ok (.enter 55 args) w := enters_of (SvP.fn Tryz.func55 (by kernel_rfl)) (by kernel_rfl) rfl
  have h1 := fun W => ci_calls t1 t2 W
  have h2 := fun W => sc_calls m1 m2 W
  have h3 := fun W => ci_calls s1 s2 W
  generalize Lib.compareInt t1 t2 = r1 at *
  generalize Lib.compareBytes m1.data.toList m2.data.toList = r2 at *
  generalize Lib.compareInt s1 s2 = r3 at *
  have h4 := or_new r1 r2 r3
  generalize fnz [r1, r2, r3] = r at *
  go_enter hF, Tryz.ntmps32
  go_wp2_with fail
  generalize hW : (w.alloc (Obj.cells #[Value.int IntKind.i64 t1, Value.string m1, Value.int IntKind.i64 s1, Value.string p1] 50)).alloc (Obj.cells #[Value.int IntKind.i64 t2, Value.string m2, Value.int IntKind.i64 s2, Value.string p2] 50) = W
  have ha : W.heap = (w.heap.push (Obj.cells #[Value.int IntKind.i64 t1, Value.string m1, Value.int IntKind.i64 s1, Value.string p1] 50)).push (Obj.cells #[Value.int IntKind.i64 t2, Value.string m2, Value.int IntKind.i64 s2, Value.string p2] 50) := by subst hW; rfl
  have b1 : W.heap[w.heap.size]? = some (Obj.cells #[Value.int IntKind.i64 t1, Value.string m1, Value.int IntKind.i64 s1, Value.string p1] 50) := by rw [ha, Array.getElem?_push, if_neg (by simp), Array.getElem?_push, if_pos rfl]
  have b2 : W.heap[w.heap.size + 1]? = some (Obj.cells #[Value.int IntKind.i64 t2, Value.string m2, Value.int IntKind.i64 s2, Value.string p2] 50) := by rw [ha, Array.getElem?_push, if_pos (by simp)]
  have c10 : ({ W with drawn := W.drawn + 1 } : World).cell? ⟨w.heap.size, 0, none⟩ = some (.int .i64 t1) := by simp [World.cell?, b1]
  have c11 : ({ W with drawn := W.drawn + 1 } : World).cell? ⟨w.heap.size, 1, none⟩ = some (.string m1) := by simp [World.cell?, b1]
  have c12 : ({ W with drawn := W.drawn + 1 } : World).cell? ⟨w.heap.size, 2, none⟩ = some (.int .i64 s1) := by simp [World.cell?, b1]
  have c20 : ({ W with drawn := W.drawn + 1 } : World).cell? ⟨w.heap.size + 1, 0, none⟩ = some (.int .i64 t2) := by simp [World.cell?, b2]
  have c21 : ({ W with drawn := W.drawn + 1 } : World).cell? ⟨w.heap.size + 1, 1, none⟩ = some (.string m2) := by simp [World.cell?, b2]
  have c22 : ({ W with drawn := W.drawn + 1 } : World).cell? ⟨w.heap.size + 1, 2, none⟩ = some (.int .i64 s2) := by simp [World.cell?, b2]
  refine wp_region_still_tail 15 (by kernel_rfl) (by kernel_rfl) ?_
  clear ha b1 b2
  have key : ∃ q os', ({ W with drawn := W.drawn + 1 } : World) = grow (w.drewN q) os' := by rw [← hW]; exact ⟨1, _, two_new _ _ _⟩
  clear hW
  generalize ({ W with drawn := W.drawn + 1 } : World) = D at c10 c11 c12 c20 c21 c22 key ⊢
  simp only [List.take_succ_cons, List.take_zero, List.drop_succ_cons, List.drop_zero]
  repeat still_step
  still_call (h1 _)
  repeat still_step
  still_call (h2 _)
  repeat still_step
  still_call (h3 _)
  refine wpStill_nil ?_
  clear c10 c11 c12 c20 c21 c22 h1 h2 h3
  go_wp2_with (go_at_call 55; refine (h4 _).mono ?_; rintro e w' ⟨rfl, rfl⟩)
  go_ret
  obtain ⟨q, os', rfl⟩ := key
  exact ⟨rfl, q, _, by rw [alloc_eq_grow, grow_grow]⟩
end Go.Proofs.YtmmjlngbiilagaaGreatDoor

/-
  The order of messages is a strict weak order; slices.SortFunc by Compare, alone, at the sort's program.
-/
namespace Go.Proofs.YtmmjlngbiilagaaGreatDoor
open Go Go.Conc Go.Shelf Go.RowKit Go.Lib Go.Sort

/-- A comparison. -/
structure TC {α : Type} (f : α → α → Int) : Prop where
  swap : ∀ x y, f y x = - f x y
  lt : ∀ x y z, f x y < 0 → f y z < 0 → f x z < 0
  eq : ∀ x y z, f x y = 0 → f x z = f y z
section
variable {α β : Type} {f g : α → α → Int}
theorem TC.refl (h : TC f) (x : α) : f x x = 0 := by have := h.swap x x; omega
theorem TC.eqr (h : TC f) {x y : α} (z : α) (e : f x y = 0) : f z x = f z y := by
  have h1 := h.eq x y z e
  have h2 := h.swap x z
  have h3 := h.swap y z
  omega
theorem TC.lex (hf : TC f) (hg : TC g) : TC fun x y => if f x y = 0 then g x y else f x y where
  swap := fun x y => by
    have h1 := hf.swap x y
    have h2 := hg.swap x y
    split <;> split <;> omega
  lt := fun x y z h1 h2 => by
    by_cases e1 : f x y = 0
    · have e3 := hf.eq x y z e1
      simp only [e1, if_true] at h1
      by_cases e2 : f y z = 0
      · rw [if_pos e2] at h2
        rw [if_pos (by omega)]
        exact hg.lt x y z h1 h2
      · rw [if_neg e2] at h2
        rw [if_neg (by omega)]
        omega
    · rw [if_neg e1] at h1
      by_cases e2 : f y z = 0
      · have e3 := hf.eqr x e2
        rw [if_neg (by omega)]
        omega
      · rw [if_neg e2] at h2
        have := hf.lt x y z h1 h2
        rw [if_neg (by omega)]
        exact this
  eq := fun x y z h => by
    by_cases e1 : f x y = 0
    · rw [if_pos e1] at h
      rw [hf.eq x y z e1, hg.eq x y z h]
    · rw [if_neg e1] at h
      exact absurd h e1
theorem TC.map (h : TC f) (p : β → α) : TC fun x y => f (p x) (p y) := ⟨fun _ _ => h.swap _ _, fun _ _ _ => h.lt _ _ _, fun _ _ _ => h.eq _ _ _⟩
theorem TC.swo (h : TC f) : SWO (ltOf f) where
  irrefl := fun x => by simp [ltOf, h.refl]
  trans := fun x y z h1 h2 => by
    simp only [ltOf, decide_eq_true_eq] at *
    exact h.lt x y z h1 h2
  ntrans := fun x y z h1 h2 => by
    simp only [ltOf, decide_eq_false_iff_not] at *
    intro hn
    by_cases e : f x y = 0
    · have := h.eq x y z e
      omega
    · have s1 := h.swap x y
      have := h.lt y x z (by omega) hn
      omega
end
theorem tc_int : TC Lib.compareInt where
  swap := fun x y => by unfold Lib.compareInt; (repeat' split) <;> omega
  lt := fun x y z => by unfold Lib.compareInt; (repeat' split) <;> omega
  eq := fun x y z => by unfold Lib.compareInt; (repeat' split) <;> omega
theorem cb_swap : ∀ x y : List UInt8, Lib.compareBytes y x = - Lib.compareBytes x y
  | [], [] => rfl
  | [], _ :: _ => rfl
  | _ :: _, [] => rfl
  | a :: l, b :: k => by
    have ih := cb_swap l k
    simp only [Lib.compareBytes]
    by_cases h1 : a < b
    · have : ¬ b < a := fun h => UInt8.lt_irrefl _ (UInt8.lt_trans h1 h)
      simp [h1, this]
    · by_cases h2 : b < a
      · simp [h1, h2]
      · simp [h1, h2, ih]
theorem cb_eq : ∀ x y : List UInt8, Lib.compareBytes x y = 0 → x = y
  | [], [], _ => rfl
  | [], _ :: _, h => by simp [Lib.compareBytes] at h
  | _ :: _, [], h => by simp [Lib.compareBytes] at h
  | a :: l, b :: k, h => by
    simp only [Lib.compareBytes] at h
    by_cases h1 : a < b
    · simp [h1] at h
    · by_cases h2 : b < a
      · simp [h1, h2] at h
      · simp only [h1, h2, if_false] at h
        have hab : a = b := UInt8.le_antisymm (UInt8.not_lt.1 h2) (UInt8.not_lt.1 h1)
        rw [cb_eq l k h, hab]
theorem cb_lt : ∀ x y z : List UInt8, Lib.compareBytes x y < 0 → Lib.compareBytes y z < 0 → Lib.compareBytes x z < 0
  | [], _, [], h1, h2 => by
    rename_i y
    cases y <;> simp [Lib.compareBytes] at h1 h2
  | [], _, _ :: _, _, _ => by simp [Lib.compareBytes]
  | _ :: _, [], _, h1, _ => by simp [Lib.compareBytes] at h1
  | _ :: _, _ :: _, [], _, h2 => by simp [Lib.compareBytes] at h2
  | a :: l, b :: k, c :: q, h1, h2 => by
    have ih := cb_lt l k q
    simp only [Lib.compareBytes] at h1 h2 ⊢
    by_cases ab : a < b
    · by_cases bc : b < c
      · simp [UInt8.lt_trans ab bc]
      · by_cases cb : c < b
        · simp [bc, cb] at h2
        · have : b = c := UInt8.le_antisymm (UInt8.not_lt.1 cb) (UInt8.not_lt.1 bc)
          subst this
          simp [ab]
    · by_cases ba : b < a
      · simp [ab, ba] at h1
      · have : a = b := UInt8.le_antisymm (UInt8.not_lt.1 ba) (UInt8.not_lt.1 ab)
        subst this
        by_cases bc : a < c
        · simp [bc]
        · by_cases cb : c < a
          · simp [bc, cb] at h2
          · simp only [ab, bc, cb, if_false] at h1 h2 ⊢
            exact ih h1 h2
theorem tc_bytes : TC Lib.compareBytes := ⟨cb_swap, cb_lt, fun x y z h => by rw [cb_eq x y h]⟩

instance : Inhabited M4 := ⟨⟨0, .empty, 0, .empty⟩⟩
abbrev Msg : Type := M4
abbrev Msg.cells (x : Msg) : List Value := M4.cells x
def cmpMsg (x y : Msg) : Int := fnz [Lib.compareInt x.t y.t, Lib.compareBytes x.m.data.toList y.m.data.toList, Lib.compareInt x.s y.s]
theorem tc_msg : TC cmpMsg := by
  have h := ((tc_int.map fun x : Msg => x.t).lex (((tc_bytes.map fun x : Msg => x.m.data.toList)).lex (tc_int.map fun x : Msg => x.s)))
  have e : cmpMsg = fun x y => if Lib.compareInt x.t y.t = 0 then (if Lib.compareBytes x.m.data.toList y.m.data.toList = 0 then Lib.compareInt x.s y.s else Lib.compareBytes x.m.data.toList y.m.data.toList) else Lib.compareInt x.t y.t := by
    funext x y
    simp only [cmpMsg, fnz]
    (repeat' split) <;> simp_all
  rw [e]
  exact h
theorem cmp_lays (blk off size : Nat) (w : World) : CmpLays SvP 32 #[] Msg.cells 4 cmpMsg blk off size w :=
  fun _ _ _ _ x y => compare_calls x.t y.t x.s y.s x.m y.m x.p y.p _
theorem sort_calls (blk off cap : Nat) (d : Array Msg) (w : World) (hH : HoldsK Msg.cells 4 w blk off d) (hblk : blk < w.heap.size) (hsz : d.size < 4611686018427387904) :
    Calls SvP 31 #[.slice (some ⟨blk, off, none⟩) d.size cap, .func (.func 32) #[] #[]] w fun e w' =>
      e = .returned (.tuple #[]) ∧ ∃ d' n os, PermIn 0 d.size d d' ∧ SortedIn (ltOf cmpMsg) 0 d.size d' ∧ w' = sortWorldK Msg.cells 4 w blk off n d' os :=
  AnyQ.slices_SortFunc sortV 4 (fun w => (pr_isAgg ..).trans (Tryz.isAgg50 w)) (fun w => (pr_sizeOf ..).trans (Tryz.sizeOf50 w)) Msg.cells (fun _ => rfl) (fun x v hv => by simp [Msg.cells, M4.cells] at hv; rcases hv with rfl | rfl | rfl | rfl <;> rfl) cmpMsg tc_msg.swo 32 #[] blk off cap d w
    (enters_of (SvP.fn Tryz.func32 (by kernel_rfl)) (by kernel_rfl) rfl) (cmp_lays blk off d.size w) hH hblk hsz
end Go.Proofs.YtmmjlngbiilagaaGreatDoor

/-
  The sort's program is a pruned one in the bridge's sense.
-/
namespace Go.Proofs.YtmmjlngbiilagaaGreatDoor
open Go Go.Conc

section
variable {K : Cfg}
theorem t_loadBytes : ∀ (n : Nat) (a : Addr) (acc : ByteArray), Tame K (fun _ => True) (Extern.Bytes.loadBytes a n acc) := by
  intro n
  induction n with
  | zero => exact fun a acc => trivial
  | succ n ih =>
    intro a acc
    refine t_bind (t_load a) fun v _ => ?_
    split
    · exact ih _ _
    · exact t_stuck _
theorem t_bytesOf (v : Value) : Tame K (fun _ => True) (Extern.Bytes.bytesOf v) := by
  unfold Extern.Bytes.bytesOf
  split
  · exact trivial
  · exact trivial
  · exact t_loadBytes _ _ _
  · exact t_stuck _
theorem t_compare (args : Array Value) : Tame K (PFv K) (Extern.BytealgCompare.compare args) := by
  obtain ⟨l⟩ := args
  match l with
  | [a, b] => exact t_bind (t_bytesOf _) fun x _ => t_bind (t_bytesOf _) fun y _ => t_pure (pf_int _ _)
  | [] => exact t_stuck _
  | [_] => exact t_stuck _
  | _ :: _ :: _ :: _ => exact t_stuck _
end
theorem bodySB : allFns (fun i fn => !keptS i || fn.body.isSome || i == 99) 0 Tryz.prog.funcs.toList = true := by kernel_rfl
theorem cmp_find : Extern.findNext Tryz.f99 = none ∧ Extern.find Tryz.f99 = some Extern.BytealgCompare.compare := ⟨by kernel_rfl, by kernel_rfl⟩
section
variable {B : Nat} {G : Nat → Prop} (hG : ∀ b, B ≤ b → G b)
include hG
theorem pruneS : Prune (KS B G) := by
  refine prune_by (lowS hG) (keep := keptS) (isInt := isIntP Tryz.prog) (isStr := isStrP Tryz.prog) (isSlc := isSlcP Tryz.prog) rfl (fun t h => isIntP_ok t h) (fun t h => isStrP_ok t h) (fun t h => isSlcP_ok t h) (fun f fn h => ?_) (fun f fn hk h hb => ?_) (fun _ => rfl)
  · have := allFns_at checkS f fn (by rw [← h]; exact Array.getElem?_toList)
    rwa [Nat.zero_add] at this
  · have h1 := allFns_at bodySB f fn (by rw [← h]; exact Array.getElem?_toList)
    rw [Nat.zero_add] at h1
    simp only [hk, hb, Bool.not_true, Option.isSome_none, Bool.false_or, beq_iff_eq] at h1
    subst h1
    have e : Tryz.f99 = fn := Option.some.inj (Tryz.func99.symm.trans h)
    subst e
    exact ⟨_, cmp_find.1, cmp_find.2, fun args _ => t_compare args⟩
end
end Go.Proofs.YtmmjlngbiilagaaGreatDoor

/-
  A CALL THAT WAS SHOWN ALONE, IN COMPANY: from 'Calls' in the pruned program to 'Goes' in the true one.
-/
namespace Go.Proofs.YtmmjlngbiilagaaGreatDoor
open Go Go.Conc

/-- The end that a call's contract tells. -/
def FinC (V : Program) (f : FuncId) (R : Value → World → Prop) (fr : Frame) (v : World) : Prop := fr.fn = f ∧ ∃ fn z, V.funcs[f]? = some fn ∧ (results fn fr.tmps).run V v = .ok z v ∧ R z v
theorem arrives_calls {V : Program} {f : FuncId} {args : Array Value} {v : World} {R : Value → World → Prop}
    (hC : ∀ (τ : Nat → Question → Nat) (p : Nat), Calls V f args (tp v τ p) fun e v' => ∃ z, e = .returned z ∧ R z v') : Arrives V (FinC V f R) (Frame.enter V f args .normal, [], v) := fun τ p => by
  obtain ⟨e, v', fr, ⟨z, rfl, hR⟩, hcom, hfn, hm, hd, hk, fn, hf, hres⟩ := hC τ p [bottom]
  obtain ⟨n, hn⟩ := hcom
  exact ⟨τ, p, fun _ => rfl, n, fr, v', hn, hm, hfn, fn, z, hfn ▸ hf, hres, hR⟩

theorem mapM_pure {φ : ResultVar → Sem Value} {tmps : Array Value} (hφ : ∀ t, φ (.tmp t) = pure (tmps.getD t undef)) : ∀ (l : List ResultVar), l.all resB = true → ∃ vs : List Value, l.mapM φ = pure vs ∧ ∀ x ∈ vs, ∃ t : Nat, x = tmps.getD t undef := by
  intro l
  induction l with
  | nil => exact fun _ => ⟨[], by rw [List.mapM_nil], by simp⟩
  | cons x l ih =>
    intro hl
    simp only [List.all_cons, Bool.and_eq_true] at hl
    obtain ⟨vs, hvs, hx⟩ := ih hl.2
    rw [List.mapM_cons, hvs]
    cases x with
    | tmp t =>
      rw [hφ]
      exact ⟨tmps.getD t undef :: vs, rfl, fun y hy => (List.mem_cons.1 hy).elim (fun e => ⟨t, e⟩) (hx y)⟩
    | cell a t => simp [resB] at hl
theorem mapM_ends {φ : ResultVar → Sem Value} {tmps : Array Value} (hφ : ∀ t, φ (.tmp t) = pure (tmps.getD t undef)) (l : List ResultVar) (h : l.all resB = true) :
    ∃ z, (∀ K : Cfg, (∀ x ∈ tmps, PFv K x) → PFv K z) ∧ ∀ (P : Program) (w : World) (es : Array Event), (do
      let vs ← Functor.map List.toArray (l.mapM φ)
      pure (if h : vs.size = 1 then vs[0] else Value.tuple vs) : Sem Value).runT P w es = (.ok z w, es) := by
  obtain ⟨vs, hvs, hx⟩ := mapM_pure hφ l h
  rw [hvs]
  refine ⟨if h : vs.toArray.size = 1 then vs.toArray[0] else Value.tuple vs.toArray, fun K hK => ?_, fun _ _ _ => rfl⟩
  have hall : ∀ x ∈ vs.toArray, PFv K x := fun x hxm => by
    obtain ⟨t, rfl⟩ := hx x (by simpa using hxm)
    rw [Array.getD_eq_getD_getElem?]
    cases he : tmps[t]? with
    | none => exact .undef K
    | some y => exact hK y (Array.mem_iff_getElem?.2 ⟨t, he⟩)
  split
  · exact hall _ (Array.getElem_mem _)
  · exact pf_tuple hall
/-- Results that lie in the frame ask nothing of the world. -/
theorem results_pure {fn : Func} (h : fn.results.all resB = true) (tmps : Array Value) : ∃ z, (∀ K : Cfg, (∀ x ∈ tmps, PFv K x) → PFv K z) ∧ ∀ (P : Program) (w : World) (es : Array Event), (results fn tmps).runT P w es = (.ok z w, es) := by
  unfold results
  rw [Array.mapM_eq_mapM_toList]
  exact mapM_ends (tmps := tmps) (fun _ => rfl) _ (by rw [Array.all_toList]; exact h)
theorem seen_nil (P : Program) (f : FuncId) : seen P f #[] = #[] := rfl

section
variable {K : Cfg} {F : Nat → Prop} {D : World → World → Array Event → Prop} {Stop : Goroutine → World → Prop} {mp : Bool}
/-- ████ A call of a kept function, in company. ████ -/
theorem calls_goes (hPr : Prune K) {f : FuncId} {fn : Func} {code : Code} {args : Array Value} {v : World} {R : Value → World → Prop}
    (hP : K.P.funcs[f]? = some fn) (hV : K.V.funcs[f]? = some fn) (hb : fn.body = some code) (hres : fn.results.all resB = true) (hargs : ∀ x ∈ args, PFv K x) (hv : VOk K v)
    (hC : ∀ (τ : Nat → Question → Nat) (p : Nat), Calls K.V f args (tp v τ p) fun e v' => ∃ z, e = .returned z ∧ R z v')
    (hD : ∀ (c : Nat) (v w v' w' : World) (es : Array Event), Pois K F v w → Did K F c v w v' w' es → D w w' es) (hD0 : ∀ w, D w w #[])
    {c : Frame} {cs : List Frame}
    (hK : ∃ M, ∀ z v' w', PFv K z → R z v' → Pois K F v' w' → Goes K.P mp AtRel D Stop M (G (c.finish z) cs) w') :
    ∃ N, ∀ w, Pois K F v w → Goes K.P mp AtRel D Stop N (G (Frame.enter K.P f args .normal) (c :: cs)) w := by
  obtain ⟨M, hM⟩ := hK
  have hcode : CodeOk K code := by
    rcases hPr.keep f fn hV with ⟨_, h, _⟩ | ⟨why, h⟩ | h
    · exact h code hb
    · rw [hb] at h; cases h; exact trivial
    · rw [hb] at h; cases h
  have hent : Frame.enter K.V f args .normal = Frame.enter K.P f args .normal := by unfold Frame.enter; rw [hV, hP]
  have hA := arrives_calls hC
  have hok : okS K (Frame.enter K.V f args .normal, [], v) := by
    refine ⟨⟨fun x hx => ?_, rfl, rfl, rfl, by show K.V.funcs[f]? = K.P.funcs[f]?; rw [hV, hP], fun g hg tmps ht => ?_, fun x hx => ?_⟩, by simp, .inl rfl, hv⟩
    · simp only [Frame.enter, hV, hb, Option.bind_some, Option.getD_some, List.mem_singleton] at hx
      subst hx
      exact hcode
    · have : fn = g := Option.some.inj (hP.symm.trans hg)
      subst this
      exact t_results hres ht
    · simp only [Frame.enter, hV, Option.map_some, Option.getD_some] at hx
      rcases Array.mem_append.1 hx with hx | hx
      · exact hargs x hx
      · rw [(Array.mem_replicate.1 hx).2]
        exact .undef K
  have := bridge (Stop := Stop) (cs := c :: cs) (mp := mp) hPr hD (acc_suc hA) hA hok fun fr v' hm hfr ⟨τ, p, hfn, g, z, hg, hrun, hR⟩ => ?_
  · obtain ⟨N, hN⟩ := this
    refine ⟨N, fun w hw => ?_⟩
    rw [← hent]
    exact hN w hw
  · subst hfn
    have : g = fn := Option.some.inj (hg.symm.trans hV)
    subst this
    obtain ⟨z', hpf, hz'⟩ := results_pure hres fr.tmps
    have ez : z = z' := by
      have h1 := hz' K.V (Proofs.YtmmjlngbiilagaaGreatDoor.tp v' τ p) #[]
      rw [Sem.runT_eq] at h1
      have h2 := (Prod.mk.inj h1).1
      rw [hrun] at h2
      cases h2
      rfl
    subst ez
    refine ⟨M + 1, fun w hw => Goes.step rfl fun w₁ h₁ => ?_⟩
    have hw₁ := hw.rel h₁
    have hstep : stepG K.P mp (G fr (c :: cs)) w₁ = .go (G (c.finish z) cs) w₁ #[] := by
      simp only [stepG, G, hm, unwind, hfr.defers, hP, hz', seen_nil, doReturn, hfr.kind]
      rfl
    rw [hstep, goes_go]
    exact ⟨hD0 _, hM z _ w₁ (hpf K hfr.tmps) hR (hw₁.tp τ p)⟩
end
end Go.Proofs.YtmmjlngbiilagaaGreatDoor

/-
  THE EMPTIED WORLD: all that is foreign is an empty row of cells.
-/
namespace Go.Proofs.YtmmjlngbiilagaaGreatDoor
open Go Go.Conc

def emptyO : Obj → Obj
  | .cells _ t fz => .cells #[] t fz
  | _ => .cells #[] 0 (0, 0)
open Classical in
noncomputable def emptied (F : Nat → Prop) (w : World) : World := { w with heap := w.heap.mapIdx fun b o => if F b then emptyO o else o }
theorem emptyO_is (o : Obj) : ∃ t fz, emptyO o = .cells #[] t fz := by cases o <;> exact ⟨_, _, rfl⟩
section
variable {F : Nat → Prop} {w : World}
theorem emptied_at (b : Nat) : (emptied F w).heap[b]? = (w.heap[b]?).map fun o => open Classical in if F b then emptyO o else o := by
  simp [emptied, Array.getElem?_mapIdx]
theorem emptied_same {b : Nat} (h : ¬ F b) : (emptied F w).heap[b]? = w.heap[b]? := by
  rw [emptied_at]
  simp [h]
theorem emptied_foreign {b : Nat} (h : F b) : (emptied F w).heap[b]? = (w.heap[b]?).map emptyO := by
  rw [emptied_at]
  simp [h]
/-- Blocks that are not foreign are rows of good cells: so the emptied world and the true one fit. -/
theorem emptied_pois {K : Cfg} (hF : ∀ b, F b → b < K.B) (hsz : K.B ≤ w.heap.size) (hG : ∀ b, F b → ¬ K.G b)
    (hown : ∀ b, ¬ F b → b < w.heap.size → ∃ c t fz, w.heap[b]? = some (.cells c t fz) ∧ ∀ x ∈ c, PFv K x) : Pois K F (emptied F w) w where
  size := by simp [emptied]
  os := rfl
  output := rfl
  same := fun b h _ => emptied_same h
  odd := fun b t e => by
    exfalso
    by_cases h : F b
    · rw [emptied_foreign h] at e
      obtain ⟨o', _, e2⟩ := Option.map_eq_some_iff.1 e
      obtain ⟨t', fz, e3⟩ := emptyO_is o'
      rw [e3] at e2
      cases e2
    · rw [emptied_same h] at e
      have hb : b < w.heap.size := (Array.getElem?_eq_some_iff.1 e).1
      obtain ⟨c, t', fz, e2, _⟩ := hown b h hb
      rw [e] at e2
      cases e2
  foreign := fun b h => by
    have hb : b < w.heap.size := Nat.lt_of_lt_of_le (hF b h) hsz
    obtain ⟨t, fz, e⟩ := emptyO_is w.heap[b]
    exact ⟨t, fz, by rw [emptied_foreign h, Array.getElem?_eq_getElem hb, Option.map_some, e]⟩
  frozen := fun a h => by
    unfold World.frozen?
    rw [emptied_foreign h]
    cases w.heap[a.block]? with
    | none => rfl
    | some o =>
      cases o with
      | cells c t fz => rfl
      | _ => simp [emptyO]
  tame := fun b o ho => by
    by_cases h : F b
    · rw [emptied_foreign h] at ho
      obtain ⟨o', _, rfl⟩ := Option.map_eq_some_iff.1 ho
      obtain ⟨t, fz, e⟩ := emptyO_is o'
      rw [e]
      exact .inl fun x hx => by simp at hx
    · rw [emptied_same h] at ho
      have hb : b < w.heap.size := by
        rcases Nat.lt_or_ge b w.heap.size with h | h
        · exact h
        · rw [Array.getElem?_eq_none h] at ho; cases ho
      obtain ⟨c, t, fz, e, hc⟩ := hown b h hb
      rw [e] at ho
      cases ho
      exact .inl hc
  row := fun b t fz h hp => absurd (hp.resolve_left id) (hG b h)
  own := fun b h hs => by
    unfold World.shape? at hs
    rw [emptied_same h] at hs
    rcases Nat.lt_or_ge b w.heap.size with hb | hb
    · obtain ⟨c, t, fz, e, _⟩ := hown b h hb
      rw [e] at hs
      cases hs
    · exact .inr (Nat.le_trans hsz hb)
  fb := hF
  disj := fun _ b h => hG b h
  sz := by rw [show (emptied F w).heap.size = w.heap.size by simp [emptied]]; exact hsz
end
def deadO (b : Nat) : Obj → Obj
  | .view .. | .pending .. | .loop .. => deadV b 0
  | o => o
theorem deadO_odd {b : Nat} {o : Obj} (h : oddO o) : deadO b o = deadV b 0 := by cases o <;> first | rfl | exact h.elim
theorem deadO_id {b : Nat} {o : Obj} (h : ¬ oddO o) : deadO b o = o := by cases o <;> first | rfl | exact absurd trivial h
open Classical in
/-- Emptied where it is foreign, dead where it is odd. -/
noncomputable def emptiedD (F : Nat → Prop) (w : World) : World := { w with heap := w.heap.mapIdx fun b o => if F b then emptyO o else deadO b o }
section
variable {F : Nat → Prop} {w : World}
theorem emptiedD_at (b : Nat) : (emptiedD F w).heap[b]? = (w.heap[b]?).map fun o => open Classical in if F b then emptyO o else deadO b o := by
  simp [emptiedD, Array.getElem?_mapIdx]
theorem emptiedD_own {b : Nat} (h : ¬ F b) : (emptiedD F w).heap[b]? = (w.heap[b]?).map (deadO b) := by
  rw [emptiedD_at]
  simp [h]
theorem emptiedD_foreign {b : Nat} (h : F b) : (emptiedD F w).heap[b]? = (w.heap[b]?).map emptyO := by
  rw [emptiedD_at]
  simp [h]
theorem emptiedD_same {b : Nat} (h : ¬ F b) (ho : ∀ o, w.heap[b]? = some o → ¬ oddO o) : (emptiedD F w).heap[b]? = w.heap[b]? := by
  rw [emptiedD_own h]
  cases hb : w.heap[b]? with
  | none => rfl
  | some o => rw [Option.map_some, deadO_id (ho o hb)]
theorem emptiedD_cells {b : Nat} {c : Array Value} {t : TypeId} {fz : Nat × Nat} (h : ¬ F b) (hb : w.heap[b]? = some (.cells c t fz)) : (emptiedD F w).heap[b]? = w.heap[b]? := emptiedD_same h fun o ho hodd => by
  rw [hb] at ho
  cases ho
  exact hodd
end
end Go.Proofs.YtmmjlngbiilagaaGreatDoor

/-
  The bridge's steps are steps of the sort's phase.
-/
namespace Go.Proofs.YtmmjlngbiilagaaGreatDoor
open Go Go.Conc

theorem did_dst {B : Nat} {O Q : Nat → Prop} {c : Nat} {v w v' w' : World} {es : Array Event} (hp : Pois (KS B fun b => O b ∨ B ≤ b) (fun b => b < B ∧ ¬ O b) v w)
    (h : Did (KS B fun b => O b ∨ B ≤ b) (fun b => b < B ∧ ¬ O b) c v w v' w' es) : DSt O Q B w w' es where
  tape := h.tape
  os := h.os
  output := h.output
  size := by rw [← hp.size, ← h.pois.size]; exact h.size
  block := fun b _ hb hO => h.keep b ⟨hb, hO⟩
  ev := fun e he => by
    obtain ⟨h1, h2⟩ := h.ev e he
    unfold EvT at h1
    unfold EvP
    rw [h.pois.size] at h1
    split at h1
    · rename_i a ha
      rw [ha]
      refine ⟨h1.2.2, .inl ?_⟩
      by_cases hO : O a.block
      · exact .inl hO
      · exact .inr ⟨Nat.le_of_not_lt fun hlt => h1.2.1 ⟨hlt, hO⟩, h1.1⟩
    · rename_i r hr
      rw [hr]
      have h3 := h1.2.2.resolve_left (by simp [KS])
      exact ⟨h3.2, .inl (.inr ⟨h3.1, h1.1⟩)⟩
    · rename_i m hm
      rcases h1 with ⟨hg, _⟩ | ⟨f, rfl⟩
      · simp [KS] at hg
      · exact absurd hm (h2 f)
    · exact h1.elim
  kd := fun N C hO hB hC b o hb ho => by
    by_cases hF : b < B ∧ ¬ O b
    · exact hC b o hb ((h.keep b hF) ▸ ho)
    · have hnd : ∀ t, v'.heap[b]? ≠ some (deadV b t) := fun t e => by
        obtain ⟨_, o', _, h2⟩ := h.pois.odd b t e
        exact h2.2
      have ht := (h.pois.tame b o ((h.pois.same b hF hnd).trans ho)).elim id fun h2 => absurd h2.1 (by simp [KS])
      cases o with
      | map es c => exact absurd ht.1 (by simp [KS])
      | view => exact ht.elim
      | pending => exact ht.elim
      | loop => exact ht.elim
      | number a l => exact (ht.resolve_left id).elim (hO _) (hB _)
      | _ => exact trivial
theorem dst_refl {B : Nat} {O Q : Nat → Prop} (w : World) : DSt O Q B w w #[] := ⟨rfl, rfl, rfl, Nat.le_refl _, fun _ _ _ _ => rfl, by simp, fun _ _ _ _ h => h⟩
end Go.Proofs.YtmmjlngbiilagaaGreatDoor

/-
  slices.SortFunc by Compare, in company, at every length: the collector's row of messages is turned to a sorted one.
-/
namespace Go.Proofs.YtmmjlngbiilagaaGreatDoor
open Go Go.Conc Go.Shelf Go.RowKit Go.Lib Go.Sort

theorem sortWorld_block {w : World} {gS n : Nat} {d : Array Msg} {os : Array Obj} {cur : Array Value} {t : TypeId} {fz : Nat × Nat} (hb : w.heap[gS]? = some (.cells cur t fz)) :
    (sortWorldK Msg.cells 4 w gS 0 n d os).heap[gS]? = some (.cells (putCells id 0 (flatK Msg.cells 4 d) cur) t fz) := by
  have hlt : gS < w.heap.size := (Array.getElem?_eq_some_iff.1 hb).1
  unfold sortWorldK grow putRowK putRow mapBlock Sort.ahead
  rw [Array.getElem?_append_left (by simpa using hlt)]
  simp only [Array.getElem?_modify, if_true, hb, Option.map_some, onCells]
/-- Block gS is a row of messages' cells; its first ones hold d. -/
def RowOf (gS len : Nat) (d : Array Msg) (w : World) : Prop :=
  ∃ cur, w.heap[gS]? = some (.cells cur 50 (0, 0)) ∧ cur.size = len ∧ (∀ x ∈ cur, ∀ K : Cfg, PFv K x) ∧ ∀ j, j < d.size * 4 → cur[j]? = some (flatK Msg.cells 4 d)[j]!
theorem flat_pf (d : Array Msg) (j : Nat) (h : j < d.size * 4) (K : Cfg) : PFv K (flatK Msg.cells 4 d)[j]! := by
  rw [get_flatK _ _ _ _ h]
  have h4 : j % 4 < 4 := Nat.mod_lt _ (by decide)
  generalize d[j / 4]! = x
  obtain e | e | e | e : j % 4 = 0 ∨ j % 4 = 1 ∨ j % 4 = 2 ∨ j % 4 = 3 := by omega
  all_goals rw [e]
  · exact pf_int _ _
  · exact pf_string _
  · exact pf_int _ _
  · exact pf_string _
theorem RowOf.holds {gS len : Nat} {d : Array Msg} {w : World} (h : RowOf gS len d w) : HoldsK Msg.cells 4 w gS 0 d := fun j hj => by
  obtain ⟨cur, hb, _, _, hc⟩ := h
  rw [size_flatK] at hj
  refine ⟨?_, ?_⟩
  · simp only [World.cell?, Nat.zero_add, hb, id_eq]
    exact hc j hj
  · simp [World.frozen?, hb]
theorem RowOf.sorted {gS len n : Nat} {d d' : Array Msg} {w : World} {os : Array Obj} (h : RowOf gS len d w) (hs : d'.size = d.size) : RowOf gS len d' (sortWorldK Msg.cells 4 w gS 0 n d' os) := by
  obtain ⟨cur, hb, hl, hp, hc⟩ := h
  refine ⟨_, sortWorld_block hb, by simp [putCells, hl], fun x hx K => ?_, fun j hj => ?_⟩
  · obtain ⟨j, hj⟩ := Array.mem_iff_getElem?.1 hx
    simp only [putCells, Array.getElem?_mapIdx, Option.map_eq_some_iff] at hj
    obtain ⟨y, hy, rfl⟩ := hj
    split
    · rename_i hlt
      simp only [size_flatK, Nat.zero_add] at hlt
      simp only [id_eq, Nat.sub_zero]
      exact flat_pf d' j hlt.2 K
    · exact hp y (Array.mem_iff_getElem?.2 ⟨j, hy⟩) K
  · have := hc j (by omega)
    simp [putCells, Array.getElem?_mapIdx, this, hj]
end Go.Proofs.YtmmjlngbiilagaaGreatDoor

/-
  THE SORT IN COMPANY.
-/
namespace Go.Proofs.YtmmjlngbiilagaaGreatDoor
open Go Go.Conc Go.Shelf Go.RowKit Go.Lib Go.Sort

theorem RowOf.heap {gS len : Nat} {d : Array Msg} {w w' : World} (h : RowOf gS len d w) (e : w'.heap[gS]? = w.heap[gS]?) : RowOf gS len d w' := by
  unfold RowOf
  rw [e]
  exact h
theorem sort_goes {Q : Nat → Prop} {Stop : Goroutine → World → Prop} {mp : Bool} {c : Frame} {cs : List Frame} {gS len cap : Nat} (d : Array Msg) (w : World) (hR : RowOf gS len d w) (hsz : d.size < 4611686018427387904)
    (hK : ∃ M, ∀ d' w', PermIn 0 d.size d d' → SortedIn (ltOf cmpMsg) 0 d.size d' → RowOf gS len d' w' → w.heap.size ≤ w'.heap.size → Goes Tryz.prog mp AtRel (DSt (fun b => b = gS) Q w.heap.size) Stop M (G (c.finish (.tuple #[])) cs) w') :
    ∃ N, ∀ w₁, AtRel w w₁ → Goes Tryz.prog mp AtRel (DSt (fun b => b = gS) Q w.heap.size) Stop N
      (G (Frame.enter Tryz.prog 31 #[.slice (some ⟨gS, 0, none⟩) d.size cap, .func (.func 32) #[] #[]] .normal) (c :: cs)) w₁ := by
  obtain ⟨M, hM⟩ := hK
  have hlt : gS < w.heap.size := by obtain ⟨cur, hb, _⟩ := hR; exact (Array.getElem?_eq_some_iff.1 hb).1
  have hG : ∀ b, w.heap.size ≤ b → (b = gS ∨ w.heap.size ≤ b) := fun b h => .inr h
  have hp : Pois (KS w.heap.size fun b => b = gS ∨ w.heap.size ≤ b) (fun b => b < w.heap.size ∧ ¬ b = gS) (emptied (fun b => b < w.heap.size ∧ ¬ b = gS) w) w := by
    refine emptied_pois (fun b h => h.1) (Nat.le_refl _) (fun b h hg => hg.elim h.2 fun h' => absurd h.1 (Nat.not_lt.2 h')) fun b hb hl => ?_
    have : b = gS := by
      by_cases e : b = gS
      · exact e
      · exact absurd ⟨hl, e⟩ hb
    subst this
    obtain ⟨cur, h1, _, h2, _⟩ := hR
    exact ⟨cur, _, _, h1, fun x hx => h2 x hx _⟩
  have hRv : RowOf gS len d (emptied (fun b => b < w.heap.size ∧ ¬ b = gS) w) := hR.heap (emptied_same fun h => h.2 rfl)
  have hs : (emptied (fun b => b < w.heap.size ∧ ¬ b = gS) w).heap.size = w.heap.size := hp.size
  obtain ⟨N, hN⟩ := calls_goes (K := KS w.heap.size fun b => b = gS ∨ w.heap.size ≤ b) (F := fun b => b < w.heap.size ∧ ¬ b = gS) (D := DSt (fun b => b = gS) Q w.heap.size) (Stop := Stop) (mp := mp) (c := c) (cs := cs)
    (f := 31) (fn := Tryz.f31)
    (args := #[.slice (some ⟨gS, 0, none⟩) d.size cap, .func (.func 32) #[] #[]]) (v := emptied (fun b => b < w.heap.size ∧ ¬ b = gS) w)
    (R := fun z v' => z = .tuple #[] ∧ ∃ d', PermIn 0 d.size d d' ∧ SortedIn (ltOf cmpMsg) 0 d.size d' ∧ RowOf gS len d' v' ∧ w.heap.size ≤ v'.heap.size)
    (pruneS hG) Tryz.func31 (SvP.fn Tryz.func31 (by kernel_rfl)) rfl (by kernel_rfl)
    (fun x hx => by
      simp only [List.mem_toArray, List.mem_cons, List.not_mem_nil, or_false] at hx
      rcases hx with rfl | rfl
      · exact pf_slice _ _ (.inr (.inl rfl))
      · exact .inr (.func _ (by simp) (by simp)))
    hp.vok
    (fun τ p => by
      have h := sort_calls gS 0 cap d (tp (emptied (fun b => b < w.heap.size ∧ ¬ b = gS) w) τ p) (hRv.heap rfl : RowOf gS len d (tp _ τ p)).holds (by show gS < (emptied _ w).heap.size; rw [hs]; exact hlt) hsz
      refine h.mono ?_
      rintro e w' ⟨rfl, d', n, os, h1, h2, rfl⟩
      refine ⟨_, rfl, rfl, d', h1, h2, ?_, ?_⟩
      · exact (hRv.heap rfl : RowOf gS len d (tp _ τ p)).sorted h1.1
      · show w.heap.size ≤ (sortWorldK Msg.cells 4 _ gS 0 n d' os).heap.size
        simp only [sortWorldK, grow, putRowK, putRow, mapBlock, Sort.ahead, Array.size_append, Array.size_modify]
        have : (tp (emptied (fun b => b < w.heap.size ∧ ¬ b = gS) w) τ p).heap.size = w.heap.size := hs
        omega)
    (fun _ _ _ _ _ _ hp hd => did_dst hp hd) dst_refl
    ⟨M, fun z v' w' _ ⟨hz, d', h1, h2, h3, h4⟩ hp' => by
      subst hz
      exact hM d' w' h1 h2 (h3.heap (hp'.same gS (fun h => h.2 rfl) fun t e => by obtain ⟨cur, hb, _⟩ := h3; rw [hb] at e; cases e).symm) (by rw [← hp'.size]; exact h4)⟩
  exact ⟨N, fun w₁ h₁ => hN w₁ (hp.rel h₁)⟩
end Go.Proofs.YtmmjlngbiilagaaGreatDoor

/-
  THE SORT OF NOTHING, in company.
-/
namespace Go.Proofs.YtmmjlngbiilagaaGreatDoor
open Go Go.Conc Go.Shelf Go.RowKit Go.Lib Go.Sort

theorem sort_none (w : World) : Calls SvP 31 #[.slice none 0 0, .func (.func 32) #[] #[]] w fun e w' => e = .returned (.tuple #[]) ∧ w' = w :=
  AnyF.slices_SortFunc_none sortV none 0 _ w
theorem sort_goes0 {Q : Nat → Prop} {Stop : Goroutine → World → Prop} {mp : Bool} {c : Frame} {cs : List Frame} (w : World)
    (hK : ∃ M, ∀ w', w'.heap.size = w.heap.size → Goes Tryz.prog mp AtRel (DSt (fun _ => False) Q w.heap.size) Stop M (G (c.finish (.tuple #[])) cs) w') :
    ∃ N, ∀ w₁, AtRel w w₁ → Goes Tryz.prog mp AtRel (DSt (fun _ => False) Q w.heap.size) Stop N
      (G (Frame.enter Tryz.prog 31 #[.slice none 0 0, .func (.func 32) #[] #[]] .normal) (c :: cs)) w₁ := by
  obtain ⟨M, hM⟩ := hK
  have hG : ∀ b, w.heap.size ≤ b → (False ∨ w.heap.size ≤ b) := fun b h => .inr h
  have hp : Pois (KS w.heap.size fun b => False ∨ w.heap.size ≤ b) (fun b => b < w.heap.size ∧ ¬ False) (emptied (fun b => b < w.heap.size ∧ ¬ False) w) w := by
    refine emptied_pois (fun b h => h.1) (Nat.le_refl _) (fun b h hg => hg.elim id fun h' => absurd h.1 (Nat.not_lt.2 h')) fun b hb hl => ?_
    exact absurd ⟨hl, id⟩ hb
  have hs : (emptied (fun b => b < w.heap.size ∧ ¬ False) w).heap.size = w.heap.size := hp.size
  obtain ⟨N, hN⟩ := calls_goes (K := KS w.heap.size fun b => False ∨ w.heap.size ≤ b) (F := fun b => b < w.heap.size ∧ ¬ False) (D := DSt (fun _ => False) Q w.heap.size) (Stop := Stop) (mp := mp) (c := c) (cs := cs)
    (f := 31) (fn := Tryz.f31)
    (args := #[.slice none 0 0, .func (.func 32) #[] #[]]) (v := emptied (fun b => b < w.heap.size ∧ ¬ False) w)
    (R := fun z v' => z = .tuple #[] ∧ v'.heap.size = w.heap.size)
    (pruneS hG) Tryz.func31 (SvP.fn Tryz.func31 (by kernel_rfl)) rfl (by kernel_rfl)
    (fun x hx => by
      simp only [List.mem_toArray, List.mem_cons, List.not_mem_nil, or_false] at hx
      rcases hx with rfl | rfl
      · exact .inr (.nils _ _)
      · exact .inr (.func _ (by simp) (by simp)))
    hp.vok
    (fun τ p => by
      refine (sort_none (tp (emptied (fun b => b < w.heap.size ∧ ¬ False) w) τ p)).mono ?_
      rintro e w' ⟨rfl, rfl⟩
      exact ⟨_, rfl, rfl, hs⟩)
    (fun _ _ _ _ _ _ hp hd => did_dst hp hd) dst_refl
    ⟨M, fun z v' w' _ ⟨hz, h4⟩ hp' => by
      subst hz
      exact hM w' (by rw [← hp'.size]; exact h4)⟩
  exact ⟨N, fun w₁ h₁ => hN w₁ (hp.rel h₁)⟩
section
variable {P : Program} {main : Bool} {R : World → World → Prop} {D : World → World → Array Event → Prop} {St : Goroutine → World → Prop} {n : Nat} {I : World → Prop}
theorem goes_stopMono {St' : Goroutine → World → Prop} (h : ∀ g w, St g w → St' g w) : ∀ {m : Nat} {g : Goroutine} {w : World}, Goes P main R D St m g w → Goes P main R D St' m g w
  | 0, _, _, hg => fun w₁ r => h _ _ (hg w₁ r)
  | m + 1, g, w, hg => by
    rcases hg with hs | ⟨hr, hst⟩
    · exact .inl fun w₁ r => h _ _ (hs w₁ r)
    · refine .inr ⟨hr, fun w₁ h₁ => ?_⟩
      have := hst w₁ h₁
      revert this
      cases hg : stepG P main g w₁ <;> simp only [GStep.goes, imp_self]
      exact fun ⟨d, x⟩ => ⟨d, goes_stopMono h x⟩
/-- What every step keeps is known at the stop. -/
theorem goes_inv (rf : ∀ w, R w w) (hR : ∀ w w₁, I w → R w w₁ → I w₁) (hD : ∀ w w' es, I w → D w w' es → I w') : ∀ {m : Nat} {g : Goroutine} {w : World}, I w → Goes P main R D (fun g w => I w → Goes P main R D St n g w) m g w → Goes P main R D St (n + m) g w
  | 0, _, w, hI, h => h w (rf w) hI
  | m + 1, g, w, hI, h => by
    rcases h with h | ⟨hs, h⟩
    · exact Goes.mono (h w (rf w) hI) (by omega)
    · refine .inr ⟨hs, fun w₁ h₁ => ?_⟩
      have := h w₁ h₁
      revert this
      have hI₁ := hR _ _ hI h₁
      cases hg : stepG P main g w₁ <;> simp only [GStep.goes, imp_self]
      exact fun ⟨d, x⟩ => ⟨d, goes_inv rf hR hD (hD _ _ _ hI₁ d) x⟩
end
section
variable {P : Program} {main : Bool} {b : Frame} {a : Act} {k : List Item} {cs : List Frame} {w : World}
/-- Into a function, as its entry stands. -/
theorem goes_enter {ops : Array Oper} {i : Nat} {rest : List Nat} {o : Oper} {K : Goroutine → World → Array Event → Prop} {f : FuncId} {fn : Func} {c : Code} {args : Array Operand} {ats : Array TypeId}
    (ho : ops[i]? = some o) (hw : Region.wanted o (yielded ops a.tmps) = true) (hk : b.kind ≠ .early) (hop : o.op = .call { callee := .value (.func f), args, argTypes := ats })
    (hf : P.funcs[f]? = some fn) (hname : (fn.name == "runtime.NumGoroutine") = false) (hb : fn.body = some c)
    (h : K (G (Frame.enter P f (args.map a.eval) .normal) (b.at a (.inRegion ops (i :: rest) :: k) :: cs)) w #[]) :
    (stepG P main (G (b.at a (.inRegion ops (i :: rest) :: k)) cs) w).goes K := by
  have hb' : fn.body.isNone = false := by rw [hb]; rfl
  rw [stepG_enter ho hw hk (run_call_body hop hf hname hb')]
  have : listed P b.fn a o w = #[] := by unfold listed; rw [events_call_body hop hf hname hb']; exact seen_none P _
  rw [this]
  exact h
end
end Go.Proofs.YtmmjlngbiilagaaGreatDoor

/-
  WHAT IS LEFT OF A RUN IS WELL: said of goroutine 0's state and the world, whoever else is only leaving. Closed under goroutine 0's own steps, under its return, under a fan-in.
-/
namespace Go.Proofs.YtmmjlngbiilagaaGreatDoor
open Go Go.Conc
open Go.ConcR (g_of_ofEvents)
open Go.ConcN (upd upd_same upd_ne sumTo sumTo_upd get_map_set get_map_set_same)

/-- The places of foreign blocks. -/
def SF (F : Nat → Prop) (l : Loc) : Prop := ∃ b, F b ∧ blk l = some b

/-- The run ends well. -/
def Ends (P : Program) (Post : Value → World → Prop) (m : Machine) (t : Trace) : Prop :=
  ∃ (N : Nat) (last : Machine) (o : Outcome) (w' : World) (t' : Trace), runNT P (N + 1) m t = (.ended o w', t') ∧ runN P N m = .next last ∧ step P last = .ended o w' ∧ Conc.Good P Post last o w' t'
theorem ends_after {P : Program} {Post : Value → World → Prop} {n : Nat} {m m' : Machine} {t t' : Trace} (h : runNT P n m t = (.next m', t')) (he : Ends P Post m' t') : Ends P Post m t := by
  obtain ⟨N, last, o, w', t2, e1, e2, e3, e4⟩ := he
  refine ⟨n + N, last, o, w', t2, ?_, ?_, e3, e4⟩
  · rw [Nat.add_assoc n, runNT_add, h]; exact e1
  · rw [runN_add, ← runNT_fst P n m t, h]; exact e2

/-- FROM HERE ALL IS WELL. -/
def Fine (P : Program) (Post : Value → World → Prop) (F : Nat → Prop) (a : Goroutine) (w : World) : Prop :=
  ∀ (gs : Array Goroutine) (sl : Option (Nat × Nat)) (t : Trace) (q : Nat → Nat), gs[0]? = some a → Bes P (SF F) gs w t q → Ends P Post (crowd gs w sl) t

section
variable {P : Program} {Post : Value → World → Prop} {F : Nat → Prop} {a : Goroutine} {w : World}

/-- An own step of goroutine 0's. -/
theorem Fine.step (hrun : a.status = .running) (h : ∀ w₁, AtRel w w₁ → ∃ a' w' es, stepG P true a w₁ = .go a' w' es ∧ w₁.heap.size ≤ w'.heap.size ∧ (∀ e ∈ es, Go.Conc.EvL (SF F) w'.heap.size e) ∧ Fine P Post F a' w') : Fine P Post F a w := by
  have key : ∀ (M : Nat) (gs : Array Goroutine) (w₀ : World) (sl : Option (Nat × Nat)) (t : Trace) (q : Nat → Nat), AtRel w w₀ → sumTo gs.size q ≤ M → gs[0]? = some a → Bes P (SF F) gs w₀ t q → Ends P Post (crowd gs w₀ sl) t := by
    intro M
    induction M using Nat.strongRecOn with
    | _ M ih =>
      intro gs w₀ sl t q hr hM h0 hB
      have hlt0 := lt_of_get h0
      have haw : ∀ g ∈ gs, awake g := by
        intro g hg
        obtain ⟨i, hi⟩ := Array.mem_iff_getElem?.1 hg
        rcases Nat.eq_zero_or_pos i with rfl | hpos
        · rw [h0] at hi; cases hi; exact awake_of (.inl hrun)
        · exact awake_of ((hB.lv.old i _ hpos hi).status.elim .inl fun x => .inr (.inr x))
      obtain ⟨i, g, d, sl', hi, hg, hst⟩ := crowd_pick (P := P) (w := w₀) (sl := sl) haw ⟨0, a, h0, hrun⟩
      have hlt := lt_of_get hi
      have one : ∀ {g' : Goroutine} {w₁ : World} {es : Array Event}, runT P (crowd gs (w₀.at d) sl') i = (.next (crowd ((gs.map (woken P g g' w₁)).setIfInBounds i g') w₁ sl'), MemOp.ofEvents i g.frame.fn g.frame.place es) →
          runNT P 1 (crowd gs w₀ sl) t = (.next (crowd ((gs.map (woken P g g' w₁)).setIfInBounds i g') w₁ sl'), t ++ MemOp.ofEvents i g.frame.fn g.frame.place es) := fun e => by
        simp only [runNT, hst, e]
      rcases Nat.eq_zero_or_pos i with rfl | hpos
      · obtain rfl : g = a := by rw [h0] at hi; exact (Option.some.inj hi).symm
        obtain ⟨a', w', es, hgo, hsz, hev, hF⟩ := h (w₀.at d) (atRel_trans _ _ _ hr ⟨d, rfl⟩)
        have hsz' : w₀.heap.size ≤ w'.heap.size := hsz
        refine ends_after (one (runT_crowd_go (P := P) (sl := sl') (i := 0) hi (show stepG P (0 == 0) g (w₀.at d) = _ from hgo))) ?_
        refine hF _ sl' _ q (get_map_set_same _ _ _ hlt0) ⟨⟨fun j x hj hx => ?_, fun j hj => ?_⟩, ?_, ?_⟩
        · rw [get_map_set _ _ _ _ (by omega)] at hx
          obtain ⟨y, hy, rfl⟩ := Option.map_eq_some_iff.1 hx
          have hq := hB.lv.old j y hj hy
          rw [woken_quitsD hq, Deaf_other t (by omega) _ g_of_ofEvents]
          exact hq
        · rw [Deaf_other t (g' := 0) (by simp at hj; omega) _ g_of_ofEvents]
          exact hB.lv.above j (by simpa using hj)
        · exact (hB.past.mono hsz').own hev
        · have := app_g (gs := gs) hB.gs (g_of_ofEvents (fn := g.frame.fn) (pos := g.frame.place) (es := es)) hlt
          simpa using this
      · have hq := hB.lv.old i g hpos hi
        have hi0 : (i == 0) = false := by simp; omega
        cases hqi : q i with
        | zero => rw [hqi] at hq; rw [hq.1] at hg; cases hg
        | succ k =>
          rw [hqi] at hq
          rcases hq with ⟨hf, _⟩ | ⟨_, g', es, hm, hstp, hq'⟩
          · rw [hf] at hg; cases hg
          have hsum : sumTo gs.size (upd q i k) + (k + 1) = sumTo gs.size q + k := by
            have := sumTo_upd q k id hlt
            simpa [hqi] using this
          refine ends_after (one (runT_crowd_go (P := P) (sl := sl') (i := i) hi (by rw [hi0]; exact hstp (w₀.at d)))) ?_
          refine ih (sumTo gs.size (upd q i k)) (by omega) _ (w₀.at d) sl' _ (upd q i k) (atRel_trans _ _ _ hr ⟨d, rfl⟩) (by simp) (by rw [get_map_set _ _ _ _ (by omega), h0, Option.map_some, woken_run hrun]) ⟨⟨fun j x hj hx => ?_, fun j hj => ?_⟩, ?_, ?_⟩
          · by_cases hji : i = j
            · subst hji
              rw [get_map_set_same _ _ _ hlt] at hx
              obtain rfl := Option.some.inj hx
              rw [upd_same, Deaf_own]
              exact hq'
            · rw [get_map_set _ _ _ _ hji] at hx
              obtain ⟨y, hy, rfl⟩ := Option.map_eq_some_iff.1 hx
              have hqj := hB.lv.old j y hj hy
              rw [woken_quitsD hqj, upd_ne q k (Ne.symm hji), Deaf_other t hji _ g_of_ofEvents]
              exact hqj
          · rw [Deaf_other t (g' := i) (by simp at hj; omega) _ g_of_ofEvents]
            exact hB.lv.above j (by simpa using hj)
          · exact hB.past.mute (by omega) hm
          · have := app_g (gs := gs) hB.gs (g_of_ofEvents (fn := g.frame.fn) (pos := g.frame.place) (es := es)) hlt
            simpa using this
  exact fun gs sl t q h0 hB => key _ gs w sl t q (atRel_refl w) (Nat.le_refl _) h0 hB

/-- The others' draws. -/
theorem Fine.rel (hrun : a.status = .running) (h : ∀ w₁, AtRel w w₁ → Fine P Post F a w₁) : Fine P Post F a w := h w (atRel_refl w)

/-- At the return. -/
theorem Fine.ends (h : ∀ w₁, AtRel w w₁ → AtEnd P (SF F) w.heap.size Post a w₁) : Fine P Post F a w := fun gs sl t q h0 hB =>
  beside_ends (D := fun _ _ _ => False) (B := w.heap.size) (fun _ _ _ h => h.elim) (n := 0) h0 hB.lv hB.past h

/-- A stretch by the kit's own judgement. -/
theorem Fine.goes {D : World → World → Array Event → Prop} {Stop : Goroutine → World → Prop} (hD : ∀ w w' es, D w w' es → w.heap.size ≤ w'.heap.size ∧ ∀ e ∈ es, Go.Conc.EvL (SF F) w'.heap.size e)
    (hS : ∀ a' w', Stop a' w' → Fine P Post F a' w') : ∀ {n : Nat} {a : Goroutine} {w : World}, Goes P true AtRel D Stop n a w → Fine P Post F a w := by
  intro n
  induction n with
  | zero => exact fun h => hS _ _ (h _ (atRel_refl _))
  | succ n ih =>
    intro a w h
    rcases h with h | ⟨hs, h⟩
    · exact hS _ _ (h _ (atRel_refl _))
    · refine Fine.step hs fun w₁ h₁ => ?_
      obtain ⟨a', w', es, e1, hd, hg⟩ := goes_elim (h w₁ h₁)
      exact ⟨a', w', es, e1, (hD _ _ _ hd).1, (hD _ _ _ hd).2, ih hg⟩

/-- THROUGH A FAN-IN. -/
theorem Fine.fan (X : Nat → Cx) (hX : ∀ L, (X L).P = P ∧ (X L).L = L ∧ (X L).Shun = SF F) (W : ∀ L, Whole (X L)) {D : Nat → World → World → Array Event → Prop} {n : Nat → Nat}
    (hD : ∀ L w w' es, D L w w' es → DB (SF F) (Shy2 (X L).Cm (X L).Wg) w w' es) (hG : ∀ L, Goes P true AtRel (D L) (AtFan (X L) w.heap.size) (n L) a w)
    (hnext : ∀ L v a' w' l, (X L).NextM v a' w' → (X L).Full l → (X L).Res l v w' → Kd (X L).Nb (X L).B1 w' → (∀ b, ¬ (X L).Nb b → w'.heap[b]? = (X L).H0[b]?) → Fine P Post (fun b => F b ∨ b = (X L).Wg) a' w') : Fine P Post F a w := by
  intro gs sl t q h0 hB
  have hlt := lt_of_get h0
  obtain ⟨e1, e2, e3⟩ := hX (gs.size - 1)
  have hB' : Bes (X (gs.size - 1)).P (X (gs.size - 1)).Shun gs w t q := by rw [e1, e3]; exact hB
  obtain ⟨N, m', t', hr, gs2, w2, sl2, a2, l, v, q2, rfl, h02, hnx, hfull, hres, hkd, hlv, hpast, hgs⟩ := fanPass (sl := sl) (W (gs.size - 1)) h0 (by omega) hB' (by rw [e3]; exact hD (gs.size - 1)) (by rw [e1]; exact hG (gs.size - 1))
  rw [e1] at hr hlv
  refine ends_after hr (hnext _ v a2 w2 l hnx hfull hres hkd.1 hkd.2 gs2 sl2 t' q2 h02 ⟨hlv, ?_, hgs⟩)
  have : ShunE (X (gs.size - 1)) = SF (fun b => F b ∨ b = (X (gs.size - 1)).Wg) := by
    funext l
    unfold ShunE SF
    rw [e3]
    unfold SF
    apply propext
    constructor
    · rintro (⟨b, h1, h2⟩ | h)
      · exact ⟨b, .inl h1, h2⟩
      · exact ⟨_, .inr rfl, h⟩
    · rintro ⟨b, h1 | rfl, h2⟩
      · exact .inl ⟨b, h1, h2⟩
      · exact .inr h2
  rw [← this]
  exact hpast
end

/-- ONE GOOD RUN, ON WHATEVER TAPE. -/
theorem fine_run {P : Program} {Post : Value → World → Prop} {a : Goroutine} {w : World} (h : Fine P Post (fun _ => False) a w) :
    ∃ M last o w' t', runNT P (M + 1) (solo a w) #[] = (.ended o w', t') ∧ runN P M (solo a w) = .next last ∧ step P last = .ended o w' ∧ Conc.Good P Post last o w' t' := by
  have e : SF (fun _ => False) = fun _ => False := by
    funext l
    exact propext ⟨fun ⟨_, h, _⟩ => h, False.elim⟩
  have hB0 : Bes P (SF fun _ => False) #[a] w #[] (fun _ => 0) := by
    rw [e]
    exact ⟨leavers_one P a, past_nil.mono (Nat.zero_le _), by simp⟩
  rw [solo_eq_crowd]
  exact h #[a] none #[] (fun _ => 0) (by simp) hB0
end Go.Proofs.YtmmjlngbiilagaaGreatDoor
