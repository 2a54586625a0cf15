/-
  ALONE: strconv.Itoa at numbers up to 100000: a string comes back; Invalid.Error: a text comes back that is not empty.
-/
import Derived.Test.YtmmjlngbiilagaaGreatDoorT17
import Derived.Maps.Own
import Derived.Maps.Views

namespace Go.Proofs.YtmmjlngbiilagaaGreatDoor
open Go Go.Conc Go.Shelf Go.RowKit Go.Lib Go.Sort

theorem und164 : Vh.underlying 164 = some (.slice 5) := by rw [pr_und]; kernel_rfl
theorem und5 : Vh.underlying 5 = some (.int .u8) := by rw [pr_und]; kernel_rfl
theorem und162 : Vh.underlying 162 = some (.array 24 5) := by rw [pr_und]; kernel_rfl
theorem below_grow (w : World) (k : Nat) (os : Array Obj) : Below w.heap.size w (grow (w.drewN k) os) := by
  refine ⟨rfl, rfl, rfl, by simp [grow, World.drewN], fun b hb => ?_⟩
  simp only [grow, World.drewN, Array.getElem?_append]
  rw [if_pos hb]
theorem digs_le {u : Nat} (hu : u ≤ 100000) : Lib.nDigits u ≤ 20 := by
  rcases Nat.eq_zero_or_pos u with rfl | h
  · decide +kernel
  · have := Lib.numDigits_eq u h (by omega)
    split at this <;> omega
abbrev b8 : UInt8 → Value := fun b => .int .u8 (b.toNat : Int)
set_option maxHeartbeats 6400000 in
set_option maxRecDepth 100000 in
theorem fmt_calls (u : Nat) (hu : u ≤ 100000) (w : World) (htab : Lib.TabIs Vh w "internal/strconv.uint64pow10" .u64 Lib.pow10Tab) : Calls Vh 64 #[.int .i64 u, .int .i64 10] w (StrRes w) := by
  have hF : Vh.funcs[64]? = some Tryz.f64 := Vh.fn Tryz.func64 (by kernel_rfl)
  have e1 := enterV Tryz.func89 (by kernel_rfl) (by kernel_rfl) rfl
  have e2 := enterV Tryz.func90 (by kernel_rfl) (by kernel_rfl) rfl
  have e3 := enterV Tryz.func91 (by kernel_rfl) (by kernel_rfl) rfl
  by_cases hs : u < 100
  · go_enter hF, Tryz.ntmps64
    go_wp2_with (go_at_call 89; refine (small_calls u hs _).mono ?_; rintro e w' ⟨rfl, rfl⟩)
    go_ret
    refine ⟨_, rfl, ?_, Below.refl _ _⟩
    have h1 : (Lib.decDigits u).length = Lib.nDigits u := Lib.decDigits_length u
    have h2 := digs_le hu
    show (Lib.decDigits u).toArray.size ≤ 24
    simp only [List.size_toArray]
    omega
  · have hu1 : 1 ≤ u := by omega
    have hn := digs_le hu
    have hu64 : u < 18446744073709551616 := by omega
    have hal : Vh.arrayLen 162 = 24 := by simp [Program.arrayLen, und162]
    have hsl1 : ∀ W, (Instr.sliceAt 162 (.pointer (some ⟨w.heap.size, 0, none⟩)) (some (.int .i64 1)) (some (.int .i64 (1 + (Lib.nDigits u : Int)))) none).run Vh W = .ok (.slice (some ⟨w.heap.size, 1, none⟩) (Lib.nDigits u) 23) W := fun W => by
      rw [run_sliceAt_array_lh W 162 ⟨w.heap.size, 0, none⟩ (by simp [Program.arrayLen, Program.elem, und162]) .i64 .i64 1 (1 + (Lib.nDigits u : Int)) (by omega) (by omega) (by rw [hal]; omega)]
      go_simp
      omega
    have hH0 := Lib.holds_zero w 162 (Lib.nDigits u) (by omega)
    have hfmt := base10_calls w.heap.size 1 23 u (Array.replicate (Lib.nDigits u) 0) (w.alloc (.cells Lib.zeros24 162)) hH0 (by rw [Array.size_replicate]; exact Lib.lt_pow_nDigits u) hu64 (by rw [Array.size_replicate]; omega)
    rw [Array.size_replicate] at hfmt
    have HH0 := Lib.hid hH0
    have hdig := digits_calls u hu1 hu64
    clear hH0 hal
    go_enter hF, Tryz.ntmps64
    go_wp2_with (first
      | (go_at_call 90; refine (hdig _ (Lib.tabIs_alloc htab _)).mono ?_; rintro e w' ⟨rfl, rfl⟩))
    go_at_call 91
    refine hfmt.mono ?_
    rintro e w' ⟨rfl, k, v', dk, rfl, hF'⟩
    have hcv : (convert 164 9 (.slice (some ⟨w.heap.size, 1, none⟩) (Lib.nDigits u) 23)).run Vh ((putRow b8 (w.alloc (.cells Lib.zeros24 162)) w.heap.size 1 dk).drewN k) = .ok (.string ⟨(Lib.decDigits u).toArray⟩) ((putRow b8 (w.alloc (.cells Lib.zeros24 162)) w.heap.size 1 dk).drewN k) := by
      have h := run_convert_bytes_back (P := Vh) ((putRow b8 (w.alloc (.cells Lib.zeros24 162)) w.heap.size 1 dk).drewN k) 164 9 5 ⟨w.heap.size, 1, none⟩ 23 (Lib.decDigits u) und164 und5 undT (fun j hj => by
        rw [Lib.row_is_numeral hF' j hj, Lib.add_plain, World.cell?_drewN]
        exact cell?_putRow b8 _ w.heap.size 1 _ dk HH0.out (by rw [hF'.size, Array.size_replicate]) j (by rw [hF'.size]; rw [Lib.decDigits_length] at hj; exact hj))
      rw [Lib.decDigits_length] at h
      exact h
    go_wp2
    go_ret
    obtain ⟨os, eo⟩ := Lib.fin_pos w (.cells Lib.zeros24 162) dk k
    refine ⟨_, rfl, ?_, ?_⟩
    · show (Lib.decDigits u).toArray.size ≤ 24
      simp only [List.size_toArray, Lib.decDigits_length]
      omega
    · have eo' : ((putRow b8 (w.alloc (.cells Lib.zeros24 162)) w.heap.size 1 dk).drewN k) = grow (w.drewN k) os := eo
      rw [eo']
      exact below_grow w k os
set_option maxRecDepth 100000 in
theorem itoaI_calls (u : Nat) (hu : u ≤ 100000) (w : World) (htab : Lib.TabIs Vh w "internal/strconv.uint64pow10" .u64 Lib.pow10Tab) : Calls Vh 37 #[.int .i64 u] w (StrRes w) := by
  have hF : Vh.funcs[37]? = some Tryz.f37 := Vh.fn Tryz.func37 (by kernel_rfl)
  have e1 := enterV Tryz.func64 (by kernel_rfl) (by kernel_rfl) rfl
  have hc := fmt_calls u hu w htab
  go_enter hF, Tryz.ntmps37
  go_wp2_with (go_at_call 64; refine hc.mono ?_; rintro e w' ⟨s, rfl, hs, hb⟩)
  go_ret
  exact ⟨s, rfl, hs, hb⟩
set_option maxRecDepth 100000 in
theorem itoa_calls (u : Nat) (hu : u ≤ 100000) (w : World) (htab : Lib.TabIs Vh w "internal/strconv.uint64pow10" .u64 Lib.pow10Tab) : Calls Vh 22 #[.int .i64 u] w (StrRes w) := by
  have hF : Vh.funcs[22]? = some Tryz.f22 := Vh.fn Tryz.func22 (by kernel_rfl)
  have e1 := enterV Tryz.func37 (by kernel_rfl) (by kernel_rfl) rfl
  have hc := itoaI_calls u hu w htab
  go_enter hF, Tryz.ntmps22
  go_wp2_with (go_at_call 37; refine hc.mono ?_; rintro e w' ⟨s, rfl, hs, hb⟩)
  go_ret
  exact ⟨s, rfl, hs, hb⟩
theorem ba_size (a : Array UInt8) : (⟨a⟩ : ByteArray).size = a.size := rfl
/-- A text that is not empty. -/
def TextRes (w : World) (e : Ending) (w' : World) : Prop := ∃ s : ByteArray, e = .returned (.string s) ∧ s ≠ ⟨#[]⟩ ∧ s.size ≤ 200 ∧ Below w.heap.size w w'
set_option maxRecDepth 100000 in
theorem invErr_calls (p : Addr) (u : Nat) (hu : u ≤ 100000) (w : World) (hp : w.cell? p = some (.int .i64 u)) (htab : Lib.TabIs Vh w "internal/strconv.uint64pow10" .u64 Lib.pow10Tab) : Calls Vh 10 #[.pointer (some p)] w (TextRes w) := by
  have hF : Vh.funcs[10]? = some Tryz.f10 := Vh.fn Tryz.func10 (by kernel_rfl)
  have e1 := enterV Tryz.func22 (by kernel_rfl) (by kernel_rfl) rfl
  have hc := itoa_calls u hu w htab
  go_enter hF, Tryz.ntmps10
  go_wp2_with (go_at_call 22; refine hc.mono ?_; rintro e w' ⟨s, rfl, hs, hb⟩)
  go_ret
  refine ⟨_, rfl, fun h => ?_, ?_, hb⟩
  · have := congrArg ByteArray.size h
    rw [ByteArray.size_append] at this
    simp only [ba_size] at this
    simp at this
  · rw [ByteArray.size_append]
    simp only [ba_size]
    simp
    omega
end Go.Proofs.YtmmjlngbiilagaaGreatDoor

/-
  ALONE: an identifier's classes.
-/
namespace Go.Proofs.YtmmjlngbiilagaaGreatDoor
open Go Go.Conc Go.Shelf Go.RowKit Go.Lib

def letterV : Value := .func (.func 146) #[] #[]
def alnumV : Value := .func (.func 147) #[] #[]
/-- The second kind, as the table holds it. -/
def kindV (sb so cap : Nat) : Value := .agg #[.int .i64 4, .slice (some ⟨sb, so, none⟩) 2 cap, .int .i64 0, .nilFunc]
/-- What the variable kinds holds, as far as it is read here. -/
structure KindsAt (sb so cap : Nat) (w : World) : Prop where
  kinds : w.rangeAt 3 4 [.int .i64 4, .slice (some ⟨sb, so, none⟩) 2 cap, .int .i64 0, .nilFunc]
  spans : w.rangeAt sb so [.int .i64 1, letterV, .int .i64 7, alnumV]
theorem below_range {B : Nat} {w w' : World} (h : Below B w w') (hB : w.heap.size ≤ B) {b o : Nat} {l : List Value} (hr : w.rangeAt b o l) : w'.rangeAt b o l := fun j v hv => by
  have h1 := hr j v hv
  have hb : b < w.heap.size := World.block_lt_of_cell? w _ h1
  exact (h.cell (p := ⟨b, _, none⟩) (by show b < B; omega)).trans h1
theorem KindsAt.below {sb so cap B : Nat} {w w' : World} (h : KindsAt sb so cap w) (g : Below B w w') (hB : w.heap.size ≤ B) : KindsAt sb so cap w' := ⟨below_range g hB h.kinds, below_range g hB h.spans⟩
theorem infoC : (Vh.info? 190).map (fun i => (i.zero, i.size, i.bytes)) = some (some .nilFunc, 1, 8) := by kernel_rfl
theorem undC : Vh.underlying 186 = some (.slice 190) := by kernel_rfl
/-- One class appended. -/
theorem list_app1 {ops : Array Oper} {rest : List Oper} {o : Oper} {a : Act} {w : World} {Q : Exit → Act → World → Prop} (hgd : o.guard = none) (s x : Operand)
    (ho : o.op = .call { callee := .builtin .append, args := #[s, x], argTypes := #[186, 186] }) (base : Nat) (v : Value) (n : Nat) (xs : List Value) (hs : a.eval s = v) (hown : w.ownsRow base 190 1 v n xs)
    (g c : Nat) (y0 : Value) (hx : a.eval x = .slice (some ⟨g, 0, none⟩) 1 c) (hnew : w.heap[g]? = some (.cells #[y0] 190 (0, 0))) (h0 : y0.oneCell' = true) (hn : n ≤ 100000) (hbase : base ≤ w.heap.size) (H : Nat) (hH : w.heap.size = H)
    (h : ∀ g' cap w', w'.ownsRow base 190 1 (.slice (some ⟨g', 0, none⟩) (n + 1) cap) (n + 1) (xs ++ [y0]) → w.grownBy w' v.ownBlock → (v.ownBlock = some g' ∨ g' = H) → g' < w'.heap.size → wpList Vh ops Q rest (a.put o.dst (.slice (some ⟨g', 0, none⟩) (n + 1) cap)) w') : wpList Vh ops Q (o :: rest) a w := by
  obtain ⟨i0, hi0, hz0, hz1, hz2⟩ := info_parts infoC
  exact wpList_append_lies w hgd s x 186 ho base 190 i0 _ 1 8 undC hi0 hz0 hz1 hz2 rfl (by omega) v n xs hs hown ⟨g, 0, none⟩ 1 c [y0] hx rfl (fun j u hu => World.news_of_block hnew j u (by simpa using hu))
    (fun u hu => by simp only [List.mem_cons, List.not_mem_nil, or_false] at hu; rcases hu with rfl; assumption) (by omega) (by simp only [maxLen]; omega) (by omega) hbase H hH h
def clsL : List Value := [letterV, alnumV, alnumV, alnumV, alnumV, alnumV, alnumV, alnumV]
def cntC : Nat → Nat
  | 0 => 0
  | 1 => 1
  | _ => 8
def ClsRes (w : World) (e : Ending) (w' : World) : Prop := ∃ v, e = .returned v ∧ w'.ownsRow w.heap.size 190 1 v 8 clsL ∧ Below w.heap.size w w'
theorem cls_step {j : Nat} (hj : j < 2) : ∃ (c : Nat) (fv : Value), c ≤ 7 ∧ (∃ f, fv = .func (.func f) #[] #[]) ∧ cntC j + c = cntC (j + 1) ∧ clsL.take (cntC (j + 1)) = clsL.take (cntC j) ++ List.replicate c fv ∧
    (∀ {w : World} {sb so : Nat}, w.rangeAt sb so [.int .i64 1, letterV, .int .i64 7, alnumV] → w.cell? ⟨sb, so + j * 2, none⟩ = some (.int .i64 c) ∧ w.cell? ⟨sb, so + j * 2 + 1, none⟩ = some fv) := by
  obtain rfl | rfl : j = 0 ∨ j = 1 := by omega
  · exact ⟨1, letterV, by decide, ⟨_, rfl⟩, rfl, rfl, fun h => ⟨h 0 _ rfl, h 1 _ rfl⟩⟩
  · exact ⟨7, alnumV, by decide, ⟨_, rfl⟩, rfl, rfl, fun h => ⟨h 2 _ rfl, h 3 _ rfl⟩⟩
set_option maxRecDepth 100000 in
set_option maxHeartbeats 2000000 in
theorem classes_calls (sb so cap : Nat) (w : World) (hk : w.rangeAt sb so [.int .i64 1, letterV, .int .i64 7, alnumV]) : Calls Vh 108 #[kindV sb so cap] w (ClsRes w) := by
  have hF : Vh.funcs[108]? = some Tryz.f108 := Vh.fn Tryz.func108 (by kernel_rfl)
  have hsb : sb < w.heap.size := World.block_lt_of_cell? w ⟨sb, so + 0, none⟩ (hk 0 _ rfl)
  have HK := Lib.hid hk
  have st := fun (W : World) (p : Addr) (f : FuncId) => run_store Vh W p (.func (.func f) #[] #[]) .plain rfl
  clear hk
  unfold kindV
  go_enter hF, Tryz.ntmps108
  go_wp2
  go_loopw [3, 9] (fun v i u => ∃ k : Nat, k ≤ 2 ∧ i = .int .i64 k ∧ Below w.heap.size w u ∧ u.ownsRow w.heap.size 190 1 v (cntC k) (clsL.take (cntC k))) (fun _ i _ => 2 - (intOf i).toNat)
  case atStart => exact ⟨0, by omega, rfl, (Below.refl _ _).alloc (Nat.le_refl _) _, ⟨rfl, .inl ⟨rfl, rfl⟩⟩⟩
  case round =>
    obtain ⟨k, hk2, rfl, hb, ho⟩ := hrel
    by_cases hlt : k < 2
    · obtain ⟨c, fv, hc7, ⟨f, rfl⟩, hcnt, htk, hsp⟩ := cls_step hlt
      obtain ⟨s0, s1⟩ := hsp (below_range hb (Nat.le_refl _) HK.out)
      have HB := Lib.hid hb
      have HO := Lib.hid ho
      have HC := Lib.hid hcnt
      have HT := Lib.hid htk
      have hszw := hb.size
      clear hb ho hcnt htk hsp
      go_wp2
      generalize Value.bool (decide ((k : Int) < 2)) = bq
      generalize hgn : wr.heap.size = g at *
      have HGN := Lib.hid hgn
      have HLT := Lib.hid hlt
      clear hgn hlt
      go_loopw [3, 15] (fun v i u => ∃ q : Nat, q ≤ c ∧ i = .int .i64 q ∧ Blk u g 192 #[.int .i64 c, (.func (.func f) #[] #[])] ∧ Below w.heap.size w u ∧ u.ownsRow w.heap.size 190 1 v (cntC k + q) (clsL.take (cntC k) ++ List.replicate q (.func (.func f) #[] #[]))) (fun _ i _ => c - (intOf i).toNat)
      case atStart => exact ⟨0, Nat.zero_le _, rfl, newBlk wr _ _ HGN.out, HB.out.alloc (by rw [HGN.out]; exact hszw) _, by simpa using HO.out.alloc _⟩
      case round =>
        obtain ⟨q, hq, rfl, hblk, hb2, ho2⟩ := hrel
        have c0 := hblk.cell 0
        have c1 := hblk.cell 1
        simp only [List.getElem?_toArray, List.getElem?_cons_zero, List.getElem?_cons_succ] at c0 c1
        have hcn : cntC k ≤ 1 := by
          obtain rfl | rfl : k = 0 ∨ k = 1 := by have := HLT.out; omega
          · decide
          · decide
        have hgl := heap_lt hblk
        have HB2 := Lib.hid hb2
        have HO2 := Lib.hid ho2
        have HBK := Lib.hid hblk
        have hsz2 := hb2.size
        have hn8 : cntC k + q ≤ 100000 := by omega
        have HCN := Lib.hid hcn
        clear hb2 ho2 hblk hcn
        generalize hgp : cntC k + q = n0 at *
        have HP := Lib.hid hgp
        clear hgp
        by_cases hql : q < c
        · go_wp2_with (first
            | (at_builtin
               refine list_app1 (by rfl) (.tmp 17) (.tmp 20) (by rfl) w.heap.size _ n0 _ (by rfl) (HO2.out.alloc _) _ 1 (.func (.func f) #[] #[]) (by rfl) (heap_alloc_new _ _) rfl hn8 (by simp; omega) _ (by rfl) ?_
               intro g' cap2 w2 hown hg hat hlt2))
          go_roundw
          case rel =>
            have hne := blk_own HO2.out HBK.out (by decide)
            refine ⟨q + 1, by omega, by go_num, ?_, ?_, ?_⟩
            · have h3 : w2.heap[g]? = _ := (hg.block g (by simp; omega) (fun e => hne e.symm)).trans (Below.heap_alloc _ _ g hgl)
              exact h3.trans HBK.out
            · exact (HB2.out.alloc hsz2 _).grown hg (by simp; omega) fun q e => own_ge HO2.out q e
            · have e1 : cntC k + (q + 1) = n0 + 1 := by have := HP.out; omega
              rw [e1, List.replicate_succ', ← List.append_assoc]
              exact hown
          case measure => simp [intOf]; omega
        · have hqe : q = c := by omega
          subst hqe
          go_wp2
          go_roundw
          case rel =>
            refine ⟨k + 1, by have := HLT.out; omega, by go_num, HB2.out, ?_⟩
            rw [HT.out, ← HC.out, HP.out]
            exact HO2.out
          case measure => have := HLT.out; simp [intOf]; omega
    · have hk : k = 2 := by omega
      subst hk
      have HB := Lib.hid hb
      have HO := Lib.hid ho
      clear hb ho
      go_wp2
      go_ret
      exact ⟨_, rfl, HO.out, HB.out⟩
end Go.Proofs.YtmmjlngbiilagaaGreatDoor

/-
  ALONE: an identifier's letters against its classes; ident.Check, ident.Valid at a member's code.
-/
namespace Go.Proofs.YtmmjlngbiilagaaGreatDoor
open Go Go.Conc Go.Shelf Go.RowKit Go.Lib

theorem cls_at {k : Nat} (hk : k < 8) : ∃ fv, clsL[k]? = some fv ∧ ((k = 0 ∧ fv = letterV) ∨ (0 < k ∧ fv = alnumV)) := by
  obtain rfl | rfl | rfl | rfl | rfl | rfl | rfl | rfl : k = 0 ∨ k = 1 ∨ k = 2 ∨ k = 3 ∨ k = 4 ∨ k = 5 ∨ k = 6 ∨ k = 7 := by omega
  · exact ⟨_, rfl, .inl ⟨rfl, rfl⟩⟩
  all_goals exact ⟨_, rfl, .inr ⟨by omega, rfl⟩⟩
set_option maxRecDepth 100000 in
set_option maxHeartbeats 2000000 in
theorem prefix_calls (g cap : Nat) (s : ByteArray) (w : World) (hg : w.rangeAt g 0 clsL) (hs : s.size ≤ maxLen) : Calls Vh 107 #[.slice (some ⟨g, 0, none⟩) 8 cap, .int .i64 4, .string s] w (ChkRes s w) := by
  unfold maxLen at hs
  have hF : Vh.funcs[107]? = some Tryz.f107 := Vh.fn Tryz.func107 (by kernel_rfl)
  have e1 := enterV Tryz.func146 (by kernel_rfl) (by kernel_rfl) rfl
  have e2 := enterV Tryz.func147 (by kernel_rfl) (by kernel_rfl) rfl
  have HG := Lib.hid hg
  clear hg
  go_enter hF, Tryz.ntmps107
  go_wp2
  go_loop [12] (fun i => ∃ k : Nat, k ≤ 8 ∧ i = .int .i64 k ∧ GoodTo s k) (fun i => 8 - (intOf i).toNat)
  case atStart => exact ⟨0, by omega, rfl, fun j _ h => absurd h (Nat.not_lt_zero j)⟩
  case round =>
    obtain ⟨k, hk, rfl, hgd⟩ := hrel
    by_cases hlt : k < 8
    · obtain ⟨fv, hfv, hcl⟩ := cls_at hlt
      have m0 : w.cell? ⟨g, k, none⟩ = some fv := by
        have := HG.out k fv hfv
        simpa using this
      clear hfv
      by_cases hks : k < s.size
      · cases hm : mayB k (s[k].toNat : Int)
        · have HN := Lib.hid (show ¬ MemOk s from fun h => by have := h.2.2 k hks hks; rw [hm] at this; cases this)
          clear hgd
          rcases hcl with ⟨rfl, rfl⟩ | ⟨hk0, rfl⟩
          · have hb : isL (s[0].toNat : Int) = false := by simpa [mayB] using hm
            have hc := fun W => letter_calls (s[0].toNat : Int) W
            rw [hb] at hc
            clear hm hb
            unfold letterV at m0
            go_wp2_with (go_at_call 146; refine (hc _).mono ?_; rintro e w' ⟨rfl, rfl⟩)
            go_ret2
            exact chkRes_no (by decide) HN.out
          · have hb : (isL (s[k].toNat : Int) || isD (s[k].toNat : Int)) = false := by simpa [mayB, hk0] using hm
            have hc := fun W => alnum_calls (s[k].toNat : Int) W
            rw [hb] at hc
            clear hm hb
            unfold alnumV at m0
            go_wp2_with (go_at_call 147; refine (hc _).mono ?_; rintro e w' ⟨rfl, rfl⟩)
            go_ret2
            exact chkRes_no (by decide) HN.out
        · have HD := Lib.hid hgd
          have HM := Lib.hid hm
          have fin : GoodTo s (k + 1) := fun j hj hjk => by
            by_cases e : j = k
            · subst e; exact HM.out
            · exact HD.out j hj (by omega)
          have HFIN := Lib.hid fin
          clear hgd fin
          rcases hcl with ⟨rfl, rfl⟩ | ⟨hk0, rfl⟩
          · have hb : isL (s[0].toNat : Int) = true := by simpa [mayB] using hm
            have hc := fun W => letter_calls (s[0].toNat : Int) W
            rw [hb] at hc
            clear hm hb
            unfold letterV at m0
            go_wp2_with (go_at_call 146; refine (hc _).mono ?_; rintro e w' ⟨rfl, rfl⟩)
            go_round
            case rel => exact ⟨0 + 1, by omega, by go_num, HFIN.out⟩
            case measure => simp [intOf]
          · have hb : (isL (s[k].toNat : Int) || isD (s[k].toNat : Int)) = true := by simpa [mayB, hk0] using hm
            have hc := fun W => alnum_calls (s[k].toNat : Int) W
            rw [hb] at hc
            clear hm hb
            unfold alnumV at m0
            go_wp2_with (go_at_call 147; refine (hc _).mono ?_; rintro e w' ⟨rfl, rfl⟩)
            go_round
            case rel => exact ⟨k + 1, by omega, by go_num, HFIN.out⟩
            case measure => simp [intOf]; omega
      · have HD := Lib.hid hgd
        have hfin : GoodTo s (k + 1) := fun j hj hjk => HD.out j hj (by omega)
        have HFIN := Lib.hid hfin
        clear hgd hfin hcl
        go_wp2
        go_round
        case rel => exact ⟨k + 1, by omega, by go_num, HFIN.out⟩
        case measure => simp [intOf]; omega
    · have hk8 : k = 8 := by omega
      subst hk8
      by_cases h4 : s.size < 4
      · have HN := Lib.hid (show ¬ MemOk s from fun h => by have := h.1; omega)
        clear hgd
        go_wp2
        go_ret2
        exact chkRes_no (by decide) HN.out
      · by_cases h8 : 8 < s.size
        · have HN := Lib.hid (show ¬ MemOk s from fun h => by have := h.2.1; omega)
          clear hgd
          go_wp2
          go_ret2
          exact chkRes_no (by decide) HN.out
        · have HM := Lib.hid (show MemOk s from ⟨by omega, by omega, fun j hj hjk => hgd j hj (by omega)⟩)
          clear hgd
          go_wp2
          go_ret2
          exact ⟨0, 0, rfl, ⟨fun _ => HM.out, fun _ => rfl⟩, 0, by cases w; rfl⟩
end Go.Proofs.YtmmjlngbiilagaaGreatDoor

/-
  ALONE: ident.Check, ident.Valid at a member's code.
-/
namespace Go.Proofs.YtmmjlngbiilagaaGreatDoor
open Go Go.Conc Go.Shelf Go.RowKit Go.Lib

def IdRes (s : ByteArray) (w : World) (e : Ending) (w' : World) : Prop := ∃ a b : Int, e = .returned (.tuple #[.int .i64 a, .int .i64 b]) ∧ (b = 0 ↔ MemOk s) ∧ Below w.heap.size w w'
theorem row_cls {w : World} {base : Nat} {v : Value} (h : w.ownsRow base 190 1 v 8 clsL) : ∃ g cap, v = .slice (some ⟨g, 0, none⟩) 8 cap ∧ w.rangeAt g 0 clsL := by
  rcases h.2 with ⟨_, hn⟩ | ⟨g, cap, cur, rfl, hb, hh, hnc, _, hsz, ht⟩
  · cases hn
  · refine ⟨g, cap, rfl, fun j v hv => ?_⟩
    rw [cell_of_row w g _ _ _ _ hh, Nat.zero_add]
    have hj : j < 8 := (List.getElem?_eq_some_iff.1 hv).1
    rw [← ht, List.getElem?_take, if_pos (by omega)] at hv
    simpa using hv
theorem undF : Vh.underlying 181 = some (.func #[9] #[9] false) := by rw [pr_und]; kernel_rfl
theorem run_gF (op : BinOp) (a b : Operand) (w : World) : (eqGuard op 181 a b .nilFunc .nilFunc).run Vh w = .ok () w := by
  have hg : Vh.eqGuardType Vh.depth 181 = false := by
    rw [show Vh.depth = Tryz.prog.depth by unfold Program.depth; rw [pr_tables]]
    refine (eqGuardType_eq (lowH (Gd := ⟨fun _ => True, fun _ => False, default⟩) (B := 0) fun _ _ => trivial) _ _).trans ?_
    kernel_rfl
  unfold eqGuard
  cases op <;> simp [hg]
theorem run_eF (d : Nat) (w : World) : (Op.equalIn (d + 1) 181 .nilFunc .nilFunc).run Vh w = .ok true w := by simp [Op.equalIn, run_underlying undF]
theorem run_bF (w : World) : (binOp .neq 181 .nilFunc .nilFunc).run Vh w = .ok (.bool false) w := by
  unfold binOp
  have h := run_eF 9999 w
  rw [show (9999 + 1 : Nat) = Op.maxDepth from rfl] at h
  simp [Op.equal, h]
set_option maxRecDepth 100000 in
set_option maxHeartbeats 4000000 in
theorem idcheck_calls (sb so cap : Nat) (s : ByteArray) (w : World) (hk : KindsAt sb so cap w) (hs : s.size ≤ maxLen) : Calls Vh 93 #[.int .i64 1, .string s] w (IdRes s w) := by
  have hF : Vh.funcs[93]? = some Tryz.f93 := Vh.fn Tryz.func93 (by kernel_rfl)
  have e1 := enterV Tryz.func108 (by kernel_rfl) (by kernel_rfl) rfl
  have e2 := enterV Tryz.func107 (by kernel_rfl) (by kernel_rfl) rfl
  have k0 := hk.kinds 0 _ rfl
  have k1 := hk.kinds 1 _ rfl
  have k2 := hk.kinds 2 _ rfl
  have k3 := hk.kinds 3 _ rfl
  have HK := Lib.hid hk
  have hcls := fun W (h : W.rangeAt sb so [.int .i64 1, letterV, .int .i64 7, alnumV]) => classes_calls sb so cap W h
  have hpre := fun (g cap : Nat) (W : World) (h : W.rangeAt g 0 clsL) => prefix_calls g cap s W h hs
  have st := fun (W : World) (p : Addr) => run_store Vh W p .nilFunc .plain rfl
  unfold kindV at hcls
  clear hk
  go_enter hF, Tryz.ntmps93
  go_upto_region 4 with fail
  go_cut [7, 8] from 18 to 26 (fun a b wx => ∃ x y : Int, a = .int .i64 x ∧ b = .int .i64 y ∧ (y = 0 ↔ MemOk s) ∧ Below (w.heap.size + 1) (w.alloc (.cells #[.int .i64 4, .slice (some ⟨sb, so, none⟩) 2 cap, .int .i64 0, .nilFunc] 183)) wx)
  case first =>
    go_region_law (first
      | (go_simp; go_at_call 108; refine (hcls _ (below_range (by (repeat (first | (with_reducible refine below_drew ?_) | (with_reducible refine below_drewN ?_ _) | (with_reducible refine Below.alloc ?_ (by (first | omega | (simp; omega) | (simp; done))) _) | exact Below.refl _ _))) (Nat.le_refl _) HK.out.spans)).mono ?_
         rintro e w' ⟨v, rfl, hown, hbw⟩
         have hk' : w'.heap[w.heap.size]? = some (.cells #[.int .i64 4, .slice (some ⟨sb, so, none⟩) 2 cap, .int .i64 0, .nilFunc] 183) := (hbw.block _ (by (first | omega | (simp; omega) | (simp; done)))).trans (by (repeat (first | (with_reducible refine heap_drew ?_) | (with_reducible refine heap_drewN ?_) | (with_reducible refine newBlk _ _ _ (by (first | omega | (simp; omega) | (simp; done)))) | (with_reducible refine (Below.heap_alloc _ _ _ (by (first | omega | (simp; omega) | (simp; done)))).trans ?_))))
         have c0 := cell_of_row w' w.heap.size 0 _ _ _ hk'
         have c1 := cell_of_row w' w.heap.size 1 _ _ _ hk'
         have c2 := cell_of_row w' w.heap.size 2 _ _ _ hk'
         have c3 := cell_of_row w' w.heap.size 3 _ _ _ hk'
         simp only [List.getElem?_toArray, List.getElem?_cons_zero, List.getElem?_cons_succ] at c0 c1 c2 c3
         obtain ⟨g, cap2, rfl, hrow⟩ := row_cls hown
         have HB1 : Below (w.heap.size + 1) (w.alloc (.cells #[.int .i64 4, .slice (some ⟨sb, so, none⟩) 2 cap, .int .i64 0, .nilFunc] 183)) w' := Below.trans (by (repeat (first | (with_reducible refine below_drew ?_) | (with_reducible refine below_drewN ?_ _) | (with_reducible refine Below.alloc ?_ (by (first | omega | (simp; omega) | (simp; done))) _) | exact Below.refl _ _))) (hbw.mono (by (first | omega | (simp; omega) | (simp; done)))))
      | (go_simp; go_at_call 107; refine (hpre _ _ _ hrow).mono ?_
         rintro e w' ⟨x, y, rfl, hxy, nd, rfl⟩))
    all_goals
      go_wp2_with fail
      go_meet
      exact ⟨_, _, rfl, rfl, hxy, below_drewN HB1 _⟩
  case rest =>
    obtain ⟨x, y, rfl, rfl, hxy, hb⟩ := hcut
    have hk' : wc.heap[w.heap.size]? = some (.cells #[.int .i64 4, .slice (some ⟨sb, so, none⟩) 2 cap, .int .i64 0, .nilFunc] 183) := (hb.block _ (by omega)).trans (heap_alloc_new w _)
    have c0 := cell_of_row wc w.heap.size 0 _ _ _ hk'
    have c1 := cell_of_row wc w.heap.size 1 _ _ _ hk'
    have c2 := cell_of_row wc w.heap.size 2 _ _ _ hk'
    have c3 := cell_of_row wc w.heap.size 3 _ _ _ hk'
    simp only [List.getElem?_toArray, List.getElem?_cons_zero, List.getElem?_cons_succ] at c0 c1 c2 c3
    have hbw : Below w.heap.size w wc := ((Below.refl _ _).alloc (Nat.le_refl _) _).trans (hb.mono (by omega))
    have HB := Lib.hid hbw
    clear hb hbw hk' hcls hpre
    by_cases hy : y = 0
    · subst hy
      have HM := Lib.hid (hxy.1 rfl)
      clear hxy
      have hgF := run_gF .neq
      have heF := run_bF
      go_wp2_with fail
      go_quiet (fail)
      go_wp2_with fail
      go_ret2
      exact ⟨_, _, rfl, ⟨fun _ => HM.out, fun _ => rfl⟩, below_drewN HB.out _⟩
    · have HX := Lib.hid hxy
      clear hxy
      have hy' : (y != 0) = true := by simpa using hy
      go_wp2_with fail
      go_ret2
      exact ⟨_, _, rfl, HX.out, HB.out⟩
set_option maxRecDepth 100000 in
set_option maxHeartbeats 2000000 in
theorem valid_calls (sb so cap : Nat) (s : ByteArray) (w : World) (hk : KindsAt sb so cap w) (hs : s.size ≤ maxLen) : Calls Vh 66 #[.int .i64 1, .string s] w fun e w' => e = .returned (.bool (memB s)) ∧ Below w.heap.size w w' := by
  have hF : Vh.funcs[66]? = some Tryz.f66 := Vh.fn Tryz.func66 (by kernel_rfl)
  have e1 := enterV Tryz.func93 (by kernel_rfl) (by kernel_rfl) rfl
  have h1 := idcheck_calls sb so cap s w hk hs
  clear hk
  go_enter hF, Tryz.ntmps66
  by_cases hm : MemOk s
  · have hB : memB s = true := by simp [memB, hm]
    rw [hB]
    have HM := Lib.hid hm
    clear hm hB
    go_wp2_with (go_at_call 93; refine h1.mono ?_; rintro e w' ⟨a, b, rfl, hb, hbw⟩; obtain rfl := hb.2 HM.out; clear hb)
    go_ret
    exact ⟨rfl, hbw⟩
  · have hB : memB s = false := by simp [memB, hm]
    rw [hB]
    have HM := Lib.hid hm
    clear hm hB
    go_wp2_with (go_at_call 93; refine h1.mono ?_; rintro e w' ⟨a, b, rfl, hb, hbw⟩; have hb0 : b ≠ 0 := fun e => HM.out (hb.1 e); clear hb)
    go_ret
    exact ⟨ret_bool (by simp; assumption), hbw⟩
end Go.Proofs.YtmmjlngbiilagaaGreatDoor

/-
  ALONE: the gateway's check of a stream: what the reference says.
-/
namespace Go.Proofs.YtmmjlngbiilagaaGreatDoor
open Go Go.Conc Go.Shelf Go.RowKit Go.Lib

theorem lastT_succ {ms : List M4} {k : Nat} {x : M4} (h : ms[k]? = some x) : lastT ms (k + 1) = x.t := by simp [lastT, h]
set_option maxRecDepth 100000 in
set_option maxHeartbeats 4000000 in
theorem gcheck_calls (sb so kc : Nat) (mem : ByteArray) (A : Option Addr) (n cap : Nat) (ms : List M4) (w : World) (hk : KindsAt sb so kc w) (hm : MRow w w.heap.size A ms) (hn : ms.length = n) (hn3 : n ≤ 300) (hs : mem.size ≤ maxLen) :
    Calls Vh 39 #[.agg #[.string mem, .slice A n cap]] w (IntRes (chkE ⟨mem, ms⟩) w) := by
  have hF : Vh.funcs[39]? = some Tryz.f39 := Vh.fn Tryz.func39 (by kernel_rfl)
  have e1 := enterV Tryz.func66 (by kernel_rfl) (by kernel_rfl) rfl
  have hc := valid_calls sb so kc mem (w.alloc (.cells #[.string mem, .slice A n cap] 60)) (hk.below ((Below.refl _ _).alloc (Nat.le_refl _) _) (Nat.le_refl _)) hs
  have HM := Lib.hid hm
  have HN := Lib.hid hn
  have HS := Lib.hid hs
  clear hm hn hs hk
  go_enter hF, Tryz.ntmps39
  cases hB : memB mem
  · have HE := Lib.hid (show chkE ⟨mem, ms⟩ = 6 from by simp [chkE, hB])
    rw [hB] at hc
    clear hB
    go_wp2_with (go_at_call 66; refine hc.mono ?_; rintro e w' ⟨rfl, hbw⟩; have HBW := Lib.hid hbw; clear hbw)
    go_ret
    rw [HE.out]
    exact ⟨rfl, Below.trans ((Below.refl _ _).alloc (Nat.le_refl _) _) (HBW.out.mono (by simp))⟩
  · have HE := Lib.hid (show chkE ⟨mem, ms⟩ = firstE (roundE mem ms) ms.length 0 from by simp [chkE, hB])
    rw [hB] at hc
    clear hB
    go_wp2_with (go_at_call 66; refine hc.mono ?_; rintro e w' ⟨rfl, hbw⟩
                 have c0 := cell_of_row w' w.heap.size 0 _ _ _ ((hbw.block _ (by simp)).trans (heap_alloc_new w _))
                 have c1 := cell_of_row w' w.heap.size 1 _ _ _ ((hbw.block _ (by simp)).trans (heap_alloc_new w _))
                 simp only [List.getElem?_toArray, List.getElem?_cons_zero, List.getElem?_cons_succ] at c0 c1
                 have HBW := Lib.hid hbw; clear hbw)
    go_loopw [3, 19] (fun l i u => ∃ k : Nat, k ≤ n ∧ i = .int .i64 k ∧ l = .int .i64 (lastT ms k) ∧ Below (w.heap.size + 1) (w.alloc (.cells #[.string mem, .slice A n cap] 60)) u ∧ ∀ j, j < k → roundE mem ms j = 0) (fun _ i _ => n - (intOf i).toNat)
    case atStart => exact ⟨0, Nat.zero_le _, rfl, rfl, HBW.out.mono (by simp), fun j h => absurd h (Nat.not_lt_zero j)⟩
    case round =>
      obtain ⟨k, hk, rfl, rfl, hb, hz⟩ := hrel
      have hS0 : wr.heap[w.heap.size]? = some (.cells #[.string mem, .slice A n cap] 60 (0, 0)) := (hb.block _ (by omega)).trans (heap_alloc_new w _)
      have c0 := cell_of_row wr w.heap.size 0 _ _ _ hS0
      have c1 := cell_of_row wr w.heap.size 1 _ _ _ hS0
      simp only [List.getElem?_toArray, List.getElem?_cons_zero, List.getElem?_cons_succ] at c0 c1
      have hbw : Below w.heap.size w wr := ((Below.refl _ _).alloc (Nat.le_refl _) _).trans (hb.mono (by omega))
      have hlt0 : w.heap.size < wr.heap.size := heap_lt hS0
      clear hS0
      by_cases hlt : k < n
      · obtain ⟨x, hx⟩ : ∃ x, ms[k]? = some x := ⟨_, List.getElem?_eq_getElem (by have := HN.out; omega)⟩
        obtain ⟨b, o, rfl, hbB, m0, m1, m2, m3⟩ := (HM.out.below hbw).at_ hx
        have HR := Lib.hid (show roundE mem ms k = msgE mem (lastT ms k) k x from by simp [roundE, hx])
        have HL2 := Lib.hid (lastT_succ hx)
        have HB := Lib.hid hb
        have HW := Lib.hid hbw
        have HZ := Lib.hid hz
        have HL := Lib.hid hlt
        clear hb hbw hz hx
        have bad : ∀ e, roundE mem ms k = e → e ≠ 0 → chkE ⟨mem, ms⟩ = e := fun e h1 h2 => by
          rw [HE.out, HN.out]
          subst h1
          exact firstE_at HL.out HZ.out h2
        have HD := Lib.hid bad
        clear bad
        generalize lastT ms k = lt at *
        by_cases g1 : x.m = mem
        · obtain ⟨xt, xm, xs, xp⟩ := x
          dsimp only at g1 m0 m1 m2 m3
          subst g1
          by_cases g2 : xt < 0
          · have HG := Lib.hid (HD.out 2 (by rw [HR.out]; simp [msgE, g2]) (by decide))
            go_wp2_with fail
            go_ret
            rw [HG.out]
            exact ⟨rfl, (HW.out.alloc (Nat.le_of_lt hlt0) _)⟩
          · by_cases g3 : 1000000000 < xt
            · have HG := Lib.hid (HD.out 2 (by rw [HR.out]; simp [msgE, g2, g3]) (by decide))
              go_wp2_with fail
              go_ret
              rw [HG.out]
              exact ⟨rfl, (HW.out.alloc (Nat.le_of_lt hlt0) _)⟩
            · by_cases g4 : xt < lt
              · have HG := Lib.hid (HD.out 20 (by rw [HR.out]; exact msgE20 (by omega) (by omega) g4) (by decide))
                go_wp2_with fail
                go_ret
                rw [HG.out]
                exact ⟨rfl, (HW.out.alloc (Nat.le_of_lt hlt0) _)⟩
              · by_cases g5 : xs = k + 1
                · by_cases g6 : 4096 < xp.size
                  · have HG := Lib.hid (HD.out 5 (by rw [HR.out]; exact msgE5 (by omega) (by omega) (by omega) g5 g6) (by decide))
                    subst g5
                    go_wp2_with fail
                    go_ret
                    rw [HG.out]
                    exact ⟨rfl, (HW.out.alloc (Nat.le_of_lt hlt0) _)⟩
                  · have HG := Lib.hid (show roundE xm ms k = 0 from by rw [HR.out]; exact msgE0 (by omega) (by omega) (by omega) g5 (by omega))
                    subst g5
                    go_wp2_with fail
                    go_roundw
                    case rel =>
                      refine ⟨k + 1, by omega, by go_num, by rw [HL2.out], HB.out.alloc (by omega) _, fun j hj => ?_⟩
                      by_cases hjk : j < k
                      · exact HZ.out j hjk
                      · obtain rfl : j = k := by omega
                        exact HG.out
                    case measure => simp [intOf]; omega
                · have HG := Lib.hid (HD.out 23 (by rw [HR.out]; exact msgE23 (by omega) (by omega) (by omega) g5) (by decide))
                  have g5' : (xs != (k : Int) + 1) = true := by simpa using g5
                  clear g5
                  go_wp2_with fail
                  go_ret
                  rw [HG.out]
                  exact ⟨rfl, (HW.out.alloc (Nat.le_of_lt hlt0) _)⟩
        · have HG := Lib.hid (HD.out 17 (by rw [HR.out]; simp [msgE, g1]) (by decide))
          have g1' := ba_ne g1
          clear g1
          go_wp2_with fail
          go_ret
          rw [HG.out]
          exact ⟨rfl, (HW.out.alloc (Nat.le_of_lt hlt0) _)⟩
      · have hkn : k = n := by omega
        subst hkn
        have HG := Lib.hid (show chkE ⟨mem, ms⟩ = 0 from by rw [HE.out, HN.out]; exact firstE_none hz)
        have HW := Lib.hid hbw
        clear hz hb hbw
        go_wp2
        go_ret
        rw [HG.out]
        exact ⟨rfl, HW.out⟩
end Go.Proofs.YtmmjlngbiilagaaGreatDoor

/-
  ALONE: the gateway's check of all streams: what the reference says.
-/
namespace Go.Proofs.YtmmjlngbiilagaaGreatDoor
open Go Go.Conc Go.Shelf Go.RowKit Go.Lib Go.ChangeMaps Go.MapKept

theorem undB : Vh.underlying 4 = some .bool := by rw [pr_und]; kernel_rfl
theorem undMap : Vh.underlying 114 = some (.map 9 4) := by rw [pr_und]; kernel_rfl
theorem zeroBool (w : World) : (zeroValue 4).run Vh w = .ok (.bool false) w := by
  refine (pr_zeroValue (P := Tryz.prog) (keep := keptH) 4 w).trans ?_
  kernel_rfl
theorem keyedS : Maps.Keyed Vh 9 := Maps.string_keyed undT
/-- Block b: the members of the first k streams. -/
def MapAt (u : World) (b : Nat) (L : List Strm) (k : Nat) : Prop := ∃ D : DataW Unit, u.ownsMap Vh 9 (plainElem Vh 4) b k D ∧ Maps.IsMap D ∧
  ∀ m : ByteArray, (Dup L k m → D.atKey (.string m.data.toList) (.lit (.bool false)) = .lit (.bool true)) ∧ (¬ Dup L k m → D.atKey (.string m.data.toList) (.lit (.bool false)) = .lit (.bool false))
theorem MapAt.keep {u u' : World} {b : Nat} {L : List Strm} {k : Nat} (h : MapAt u b L k) (e : u'.heap[b]? = u.heap[b]?) : MapAt u' b L k := by
  obtain ⟨D, ⟨es, c, h1, h2⟩, h3⟩ := h
  exact ⟨D, ⟨es, c, e.trans h1, h2⟩, h3⟩
theorem MapAt.lt {u : World} {b : Nat} {L : List Strm} {k : Nat} (h : MapAt u b L k) : b < u.heap.size := by
  obtain ⟨D, h, _⟩ := h
  exact h.lt
theorem bytes_list {a b : ByteArray} (h : a.data.toList = b.data.toList) : a = b := by
  obtain ⟨⟨a⟩⟩ := a
  obtain ⟨⟨b⟩⟩ := b
  simp at h
  subst h
  rfl
theorem MapAt.zero (w : World) (L : List Strm) : MapAt (w.alloc (.map #[] 0)) w.heap.size L 0 :=
  ⟨.map [], World.ownsMap_made w _ _ _, Maps.isMap_empty, fun m => ⟨fun ⟨j, _, h, _⟩ => absurd h (Nat.not_lt_zero j), fun _ => rfl⟩⟩
theorem plainElem_bool_inv {v : Value} {x : Bool} {ps : List MemPlace} (h : plainElem (H := Unit) Vh 4 v = some (.lit (.bool x), ps)) : v = .bool x := by
  unfold plainElem at h
  rw [undB] at h
  cases v <;> simp at h
  rw [h.1]
theorem MapAt.look {u : World} {b : Nat} {L : List Strm} {k : Nat} (h : MapAt u b L k) {m : ByteArray} (hm : m.size ≤ maxLen) : (Dup L k m → (Instr.lookup 114 (.map (some b)) (.string m) false).run Vh u = .ok (.bool true) u) ∧ (¬ Dup L k m → (Instr.lookup 114 (.map (some b)) (.string m) false).run Vh u = .ok (.bool false) u) := by
  obtain ⟨D, h1, _, h2⟩ := h
  obtain ⟨v, ps, hr, hv⟩ := h1.lookup keyedS undMap (zeroBool u) (plainElem_bool undB false) (Go.WideMaps.keyOf_string_mk undT hm)
  refine ⟨fun hd => ?_, fun hd => ?_⟩
  · rw [(h2 m).1 hd] at hv
    rw [hr, plainElem_bool_inv hv]
  · rw [(h2 m).2 hd] at hv
    rw [hr, plainElem_bool_inv hv]
theorem Dup.succ {L : List Strm} {k : Nat} {x : Strm} (hx : L[k]? = some x) (m : ByteArray) : Dup L (k + 1) m ↔ Dup L k m ∨ x.mem = m := by
  constructor
  · rintro ⟨j, y, hj, hy, rfl⟩
    rcases Nat.lt_or_ge j k with h | h
    · exact .inl ⟨j, y, h, hy, rfl⟩
    · obtain rfl : j = k := by omega
      rw [hx] at hy
      cases hy
      exact .inr rfl
  · rintro (⟨j, y, hj, hy, rfl⟩ | rfl)
    · exact ⟨j, y, by omega, hy, rfl⟩
    · exact ⟨k, x, by omega, hx, rfl⟩
theorem MapAt.put {u' : World} {b : Nat} {L : List Strm} {k : Nat} {D : DataW Unit} {x : Strm} (hx : L[k]? = some x) (h2 : Maps.IsMap D) (h3 : ∀ m : ByteArray, (Dup L k m → D.atKey (.string m.data.toList) (.lit (.bool false)) = .lit (.bool true)) ∧ (¬ Dup L k m → D.atKey (.string m.data.toList) (.lit (.bool false)) = .lit (.bool false)))
    (h : u'.ownsMap Vh 9 (plainElem Vh 4) b (k + 1) (D.put (.string x.mem.data.toList) (.lit (.bool true)))) : MapAt u' b L (k + 1) := by
  refine ⟨_, h, h2.put _ _, fun m => ?_⟩
  by_cases e : x.mem = m
  · subst e
    exact ⟨fun _ => Maps.atKey_put_same h2 (show WideAt.IsKeyLit (.string x.mem.data.toList) from trivial) _ _, fun hn => absurd ((Dup.succ hx _).2 (.inr rfl)) hn⟩
  · have hne : Lit.string m.data.toList ≠ .string x.mem.data.toList := fun h => e (bytes_list (by injection h with h; exact h.symm))
    rw [Maps.atKey_put_other hne]
    have hd := Dup.succ hx m
    exact ⟨fun h => (h3 m).1 ((hd.1 h).resolve_right e), fun h => (h3 m).2 fun h' => h (hd.2 (.inl h'))⟩
set_option maxRecDepth 100000 in
set_option maxHeartbeats 4000000 in
theorem gall_calls (sb so kc : Nat) (A : Option Addr) (n cap : Nat) (L : List Strm) (w : World) (hk : KindsAt sb so kc w) (hS : SRow w w.heap.size A L) (hn : L.length = n) (hf : Fits L) (hsz : ∀ x ∈ L, x.mem.size ≤ maxLen) :
    Calls Vh 26 #[.slice A n cap] w (IntRes (allE L) w) := by
  have hF : Vh.funcs[26]? = some Tryz.f26 := Vh.fn Tryz.func26 (by kernel_rfl)
  have e1 := enterV Tryz.func39 (by kernel_rfl) (by kernel_rfl) rfl
  have hmk : ∀ W : World, (Instr.makeMap 114 none).run Vh W = .ok (.map (some W.heap.size)) (W.alloc (.map #[] 0)) := fun _ => rfl
  have hn40 : n ≤ 40 := by have := hf.1; omega
  have HK := Lib.hid hk
  have HS := Lib.hid hS
  have HN := Lib.hid hn
  have HF := Lib.hid hf
  have HZ := Lib.hid hsz
  clear hk hS hn hf hsz
  go_enter hF, Tryz.ntmps26
  go_wp2
  go_loopw [4, 14] (fun t i u => ∃ k : Nat, k ≤ n ∧ i = .int .i64 k ∧ t = .int .i64 (tot (L.take k) : Int) ∧ Below w.heap.size w u ∧ MapAt u w.heap.size L k ∧ ∀ j, j < k → roundA L j = 0) (fun _ i _ => n - (intOf i).toNat)
  case atStart => exact ⟨0, Nat.zero_le _, rfl, rfl, (Below.refl _ _).alloc (Nat.le_refl _) _, MapAt.zero w L, fun j h => absurd h (Nat.not_lt_zero j)⟩
  case round =>
    obtain ⟨k, hk, rfl, rfl, hb, hmp, hz⟩ := hrel
    by_cases hlt : k < n
    · obtain ⟨x, hx⟩ : ∃ x, L[k]? = some x := ⟨_, List.getElem?_eq_getElem (by have := HN.out; omega)⟩
      obtain ⟨b, o, rfl, hbB, m0, A', cap', m1, hm⟩ := (HS.out.below hb).at_ hx
      have ht1 := tot_succ hx
      have ht2 := tot_take_le L (k + 1)
      have ht3 := HF.out.2
      have hle : x.ms.length ≤ 300 := by omega
      have h300 : tot (L.take k) + x.ms.length ≤ 300 := by omega
      have hxs : x.mem.size ≤ maxLen := HZ.out x (List.mem_of_getElem? hx)
      have hst := fun (W : World) (h1 : KindsAt sb so kc W) (h : MRow W W.heap.size A' x.ms) => gcheck_calls sb so kc x.mem A' x.ms.length cap' x.ms W h1 h rfl hle hxs
      have HX := Lib.hid hx
      have HB := Lib.hid hb
      have HM := Lib.hid (hm.more hb.size)
      have HT := Lib.hid ht1
      have HR := Lib.hid hz
      have HMP := Lib.hid hmp
      have HXS := Lib.hid hxs
      have hmlt := hmp.lt
      have hszw := hb.size
      have hA1 := Lib.hid (hb.alloc hszw (.cells #[.string x.mem, .slice A' x.ms.length cap'] 60))
      clear hx hb hm ht1 ht2 ht3 hz hxs hmp
      generalize tot (L.take k) = t0 at *
      have hkw : KindsAt sb so kc (wr.alloc (.cells #[.string x.mem, .slice A' x.ms.length cap'] 60)) := HK.out.below hA1.out (Nat.le_refl _)
      have hmw : MRow (wr.alloc (.cells #[.string x.mem, .slice A' x.ms.length cap'] 60)) (wr.alloc (.cells #[.string x.mem, .slice A' x.ms.length cap'] 60)).heap.size A' x.ms :=
        (HM.out.below ((Below.refl _ _).alloc (Nat.le_refl _) _)).more (by simp)
      have HKW := Lib.hid hkw
      have HMW := Lib.hid hmw
      clear hkw hmw
      by_cases hc : chkE x = 0
      · have hst' := hst _ HKW.out HMW.out
        rw [show (⟨x.mem, x.ms⟩ : Strm) = x from rfl, hc] at hst'
        have HC := Lib.hid hc
        clear hst hc
        by_cases hd : Dup L k x.mem
        · have HD := Lib.hid hd
          clear hd
          go_wp2_with (go_at_call 39; refine hst'.mono ?_; rintro e w' ⟨rfl, hbw⟩
                       have hkb : w'.heap[wr.heap.size]? = some (.cells #[.string x.mem, .slice A' x.ms.length cap'] 60) := (hbw.block _ (by simp)).trans (heap_alloc_new wr _)
                       have c0 := cell_of_row w' wr.heap.size 0 _ _ _ hkb
                       have c1 := cell_of_row w' wr.heap.size 1 _ _ _ hkb
                       simp only [List.getElem?_toArray, List.getElem?_cons_zero, List.getElem?_cons_succ] at c0 c1
                       have hmp' : MapAt w' w.heap.size L k := HMP.out.keep ((hbw.block _ (by simp; omega)).trans (Below.heap_alloc wr _ _ hmlt))
                       have hlk := (hmp'.look HXS.out).1 HD.out
                       have HBW := Lib.hid hbw; clear hbw hkb hmp')
          go_ret
          have HG : allE L = 7 := by
            have h := roundA_dup HX.out HC.out HD.out
            rw [← h]
            exact firstE_at (by rw [HN.out]; exact hlt) HR.out (by rw [h]; decide)
          rw [HG]
          exact ⟨rfl, hA1.out.trans (HBW.out.mono (by simp; omega))⟩
        · have HD := Lib.hid hd
          clear hd
          go_wp2_with (first
            | (go_at_call 39; refine hst'.mono ?_; rintro e w' ⟨rfl, hbw⟩
               have hkb : w'.heap[wr.heap.size]? = some (.cells #[.string x.mem, .slice A' x.ms.length cap'] 60) := (hbw.block _ (by simp)).trans (heap_alloc_new wr _)
               have c0 := cell_of_row w' wr.heap.size 0 _ _ _ hkb
               have c1 := cell_of_row w' wr.heap.size 1 _ _ _ hkb
               simp only [List.getElem?_toArray, List.getElem?_cons_zero, List.getElem?_cons_succ] at c0 c1
               have hmp' : MapAt w' w.heap.size L k := HMP.out.keep ((hbw.block _ (by simp; omega)).trans (Below.heap_alloc wr _ _ hmlt))
               have hlk := (hmp'.look HXS.out).2 HD.out
               obtain ⟨D, hown, hD1, hD2⟩ := hmp'
               have HOW := Lib.hid hown
               have HD1 := Lib.hid hD1
               have HD2 := Lib.hid hD2
               have HKB := Lib.hid hkb
               have HBW := Lib.hid hbw; clear hbw hkb hown hD1 hD2)
            | (at_mapUpdate
               refine wpList_mapUpdate_own _ (by rfl) (.tmp 27) (.tmp 29) (.const (.bool true)) 114 (by rfl) 9 4 keyedS undMap (plainElem Vh 4) w.heap.size k D (by rfl) HOW.out (by unfold maxLen; omega) (.string x.mem) (.bool true) (.string x.mem.data.toList) (by rfl) (by rfl) (Go.WideMaps.keyOf_string_mk undT HXS.out) (.lit (.bool true)) [] (plainElem_bool undB true) ?_
               intro w2 hown2 hgr2
               have hkb2 : w2.heap[wr.heap.size]? = some (.cells #[.string x.mem, .slice A' x.ms.length cap'] 60) := (hgr2.block _ (heap_lt HKB.out) (by simp; omega)).trans HKB.out
               have d1 := cell_of_row w2 wr.heap.size 1 _ _ _ hkb2
               simp only [List.getElem?_toArray, List.getElem?_cons_zero, List.getElem?_cons_succ] at d1))
          go_roundw
          case rel =>
            refine ⟨k + 1, by omega, by go_num, by rw [HT.out]; go_num, ?_, MapAt.put HX.out HD1.out HD2.out hown2, fun j hj => ?_⟩
            · exact (hA1.out.trans (HBW.out.mono (by simp; omega))).grown hgr2 (by have := HBW.out.size; simp at this; omega) fun q e => by injection e with e; omega
            · by_cases hjk : j < k
              · exact HR.out j hjk
              · obtain rfl : j = k := by omega
                exact roundA_ok HX.out HC.out HD.out
          case measure => simp [intOf]; omega
      · have hst' := hst _ HKW.out HMW.out
        have HC := Lib.hid hc
        have hc' : (chkE x != 0) = true := by simpa using hc
        clear hst hc
        go_wp2_with (go_at_call 39; refine hst'.mono ?_; rintro e w' ⟨rfl, hbw⟩; have HBW := Lib.hid hbw; clear hbw)
        go_ret
        have HG : allE L = chkE x := by
          have h := roundA_chk HX.out HC.out
          rw [← h]
          exact firstE_at (by rw [HN.out]; exact hlt) HR.out (by rw [h]; exact HC.out)
        rw [HG]
        exact ⟨rfl, hA1.out.trans (HBW.out.mono (by simp; omega))⟩
    · have hkn : k = n := by omega
      subst hkn
      have HG := Lib.hid (show allE L = 0 from by unfold allE; rw [HN.out]; exact firstE_none hz)
      have HB := Lib.hid hb
      clear hz hb hmp
      go_wp2
      go_ret
      rw [HG.out]
      exact ⟨rfl, HB.out⟩
end Go.Proofs.YtmmjlngbiilagaaGreatDoor
