/-
  GOROUTINE 0's WALK: known: the chapter's example.
-/
import Derived.Test.YtmmjlngbiilagaaGreatDoorT24

namespace Go.Proofs.YtmmjlngbiilagaaGreatDoor
open Go Go.Conc Go.Shelf Go.RowKit Go.Lib Go.Sort

abbrev bB : ByteArray := ⟨#[66, 65, 78, 75, 66]⟩
abbrev bA : ByteArray := ⟨#[66, 65, 78, 75, 65]⟩
abbrev kb1 : M4 := ⟨0, bB, 1, ⟨#[]⟩⟩
abbrev kb2 : M4 := ⟨2, bB, 2, ⟨#[]⟩⟩
abbrev ka1 : M4 := ⟨2, bA, 1, ⟨#[]⟩⟩
abbrev stsK (n : Nat) : List St4 := [⟨bB, some ⟨n, 0, none⟩, n, 2, 2, [kb1, kb2]⟩, ⟨bA, some ⟨n + 1, 0, none⟩, n + 1, 1, 1, [ka1]⟩]
abbrev lK : List Strm := [⟨bB, [kb1, kb2]⟩, ⟨bA, [ka1]⟩]
theorem four {cs : Array Value} {o : Nat} {a b c d : Value} (h0 : cs[o]? = some a) (h1 : cs[o + 1]? = some b) (h2 : cs[o + 2]? = some c) (h3 : cs[o + 3]? = some d) : ∀ j x, [a, b, c, d][j]? = some x → cs[o + j]? = some x := by
  intro j x hx
  have hj : j < 4 := (List.getElem?_eq_some_iff.1 hx).1
  obtain rfl | rfl | rfl | rfl : j = 0 ∨ j = 1 ∨ j = 2 ∨ j = 3 := by omega
  all_goals (cases hx; assumption)
theorem two {cs : Array Value} {o : Nat} {a b : Value} (h0 : cs[o]? = some a) (h1 : cs[o + 1]? = some b) : ∀ j x, [a, b][j]? = some x → cs[o + j]? = some x := by
  intro j x hx
  have hj : j < 2 := (List.getElem?_eq_some_iff.1 hx).1
  obtain rfl | rfl : j = 0 ∨ j = 1 := by omega
  all_goals (cases hx; assumption)
theorem five {P : Nat → Prop} (h0 : P 0) (h1 : P 1) (h2 : P 2) (h3 : P 3) (h4 : P 4) : ∀ j, j < 5 → P j := by
  intro j hj
  obtain rfl | rfl | rfl | rfl | rfl : j = 0 ∨ j = 1 ∨ j = 2 ∨ j = 3 ∨ j = 4 := by omega
  all_goals assumption
theorem mem_bB : memB bB = true := by
  have : MemOk bB := ⟨by decide, by decide, fun j hj _ => five (P := fun j => ∀ h : j < bB.size, mayB j (bB[j].toNat : Int) = true) (fun _ => by kernel_rfl) (fun _ => by kernel_rfl) (fun _ => by kernel_rfl) (fun _ => by kernel_rfl) (fun _ => by kernel_rfl) j hj hj⟩
  simp [memB, this]
theorem mem_bA : memB bA = true := by
  have : MemOk bA := ⟨by decide, by decide, fun j hj _ => five (P := fun j => ∀ h : j < bA.size, mayB j (bA[j].toNat : Int) = true) (fun _ => by kernel_rfl) (fun _ => by kernel_rfl) (fun _ => by kernel_rfl) (fun _ => by kernel_rfl) (fun _ => by kernel_rfl) j hj hj⟩
  simp [memB, this]
theorem allE_K : allE lK = 0 := by
  have c1 : chkE ⟨bB, [kb1, kb2]⟩ = 0 := by
    unfold chkE
    rw [if_pos mem_bB]
    refine firstE_none fun j hj => ?_
    have hj' : j < 2 := hj
    obtain rfl | rfl : j = 0 ∨ j = 1 := by omega
    · simp [roundE, msgE, lastT]; decide
    · simp [roundE, msgE, lastT]; decide
  have c2 : chkE ⟨bA, [ka1]⟩ = 0 := by
    unfold chkE
    rw [if_pos mem_bA]
    refine firstE_none fun j hj => ?_
    have hj' : j < 1 := hj
    obtain rfl : j = 0 := by omega
    simp [roundE, msgE, lastT]; decide
  refine firstE_none fun j hj => ?_
  have hj' : j < 2 := hj
  obtain rfl | rfl : j = 0 ∨ j = 1 := by omega
  · exact roundA_ok rfl c1 fun ⟨i, _, hi, _⟩ => absurd hi (Nat.not_lt_zero i)
  · refine roundA_ok rfl c2 fun ⟨i, y, hi, hy, he⟩ => ?_
    obtain rfl : i = 0 := by omega
    cases hy
    have h2 := congrArg (fun b : ByteArray => b.data) he
    revert h2
    decide
theorem rmgK : rmg [kb1, kb2, ka1] = [kb1, ka1, kb2] := by kernel_rfl
section
variable {Gd : GB} {F : Nat → Prop} {v : World} {sb so kc : Nat}
set_option maxRecDepth 100000 in
set_option maxHeartbeats 8000000 in
theorem known_callsV (hgl : ∀ g, glH g = true → Gd g) (hGF : ∀ b, ¬ Fm Gd F b → Gd b) (hk : KindsAt sb so kc v) :
    CallsV Vh Tryz.prog Gd 5 #[] F v fun F' z v' => z = .bool true ∧ MrgK F v F' v' := by
  refine callsV_body Tryz.func5 (by rfl) (by kernel_rfl) ?_
  simp only [Tryz.ntmps5]
  (simp only [List.size_toArray, List.length_cons, List.length_nil, Nat.reduceAdd, Nat.reduceSub, Array.replicate_succ, Array.replicate_zero, List.push_toArray, List.append_toArray, List.nil_append, List.cons_append])
  obtain ⟨u, hu⟩ : ∃ u, u = ((v.alloc (.cells #[.int .i64 0, .string bB, .int .i64 1, .string ⟨#[]⟩, .int .i64 2, .string bB, .int .i64 2, .string ⟨#[]⟩] 50)).alloc (.cells #[.int .i64 2, .string bA, .int .i64 1, .string ⟨#[]⟩] 50)).alloc (.cells #[.string bB, .slice (some ⟨v.heap.size, 0, none⟩) 2 2, .string bA, .slice (some ⟨v.heap.size + 1, 0, none⟩) 1 1] 60) := ⟨_, rfl⟩
  have hb0 : u.heap[v.heap.size]? = some (.cells #[.int .i64 0, .string bB, .int .i64 1, .string ⟨#[]⟩, .int .i64 2, .string bB, .int .i64 2, .string ⟨#[]⟩] 50) := by
    rw [hu]; exact (Below.heap_alloc _ _ _ (by simp; omega)).trans ((Below.heap_alloc _ _ _ (by simp)).trans (heap_alloc_new v _))
  have hb1 : u.heap[v.heap.size + 1]? = some (.cells #[.int .i64 2, .string bA, .int .i64 1, .string ⟨#[]⟩] 50) := by
    rw [hu]; exact (Below.heap_alloc _ _ _ (by simp)).trans (newBlk _ _ _ (by simp))
  have hb2 : u.heap[v.heap.size + 1 + 1]? = some (.cells #[.string bB, .slice (some ⟨v.heap.size, 0, none⟩) 2 2, .string bA, .slice (some ⟨v.heap.size + 1, 0, none⟩) 1 1] 60) := by
    rw [hu]; exact newBlk _ _ _ (by simp)
  have hbl : Bl v.heap.size v u := by rw [hu]; exact (((Bl.refl _ _).alloc (Nat.le_refl _) _).alloc (by simp) _).alloc (by simp; omega) _
  have hus : u.heap.size = v.heap.size + 3 := by rw [hu]; simp
  have rg : ∀ {b : Nat} {t : TypeId} {cs : Array Value} (o : Nat) (l : List Value), u.heap[b]? = some (.cells cs t) → (∀ j x, l[j]? = some x → cs[o + j]? = some x) → u.rangeAt b o l := fun o l h hh j x hx => (cell_of_row u _ _ _ _ _ h).trans (hh j x hx)
  have hst : ∀ (i : Nat) (x : St4), (stsK v.heap.size)[i]? = some x → x.ok (fun b => b < u.heap.size) u := fun i x hx => by
    have hi : i < 2 := (List.getElem?_eq_some_iff.1 hx).1
    obtain rfl | rfl : i = 0 ∨ i = 1 := by omega
    · cases hx
      refine ⟨rfl, (show (2 : Nat) ≤ 9223372036854775807 by decide), fun _ => rfl, fun _ => by show v.heap.size < u.heap.size; omega, fun j y hy => ?_⟩
      have hj : j < 2 := (List.getElem?_eq_some_iff.1 hy).1
      obtain rfl | rfl : j = 0 ∨ j = 1 := by omega
      · cases hy
        exact rg 0 _ hb0 (four rfl rfl rfl rfl)
      · cases hy
        exact rg 4 _ hb0 (four rfl rfl rfl rfl)
    · cases hx
      refine ⟨rfl, (show (1 : Nat) ≤ 9223372036854775807 by decide), fun _ => rfl, fun _ => by show v.heap.size + 1 < u.heap.size; omega, fun j y hy => ?_⟩
      have hj : j < 1 := (List.getElem?_eq_some_iff.1 hy).1
      obtain rfl : j = 0 := by omega
      cases hy
      exact rg 0 _ hb1 (four rfl rfl rfl rfl)
  have hrow : ∀ (i : Nat) (x : St4), (stsK v.heap.size)[i]? = some x → u.rangeAt (v.heap.size + 1 + 1) (i * 2) x.cells := fun i x hx => by
    have hi : i < 2 := (List.getElem?_eq_some_iff.1 hx).1
    obtain rfl | rfl : i = 0 ∨ i = 1 := by omega
    · cases hx
      exact rg 0 _ hb2 (two rfl rfl)
    · cases hx
      exact rg 2 _ hb2 (two rfl rfl)
  have hku : KindsAt sb so kc u := ⟨hbl.range (World.block_lt_of_cell? v ⟨3, 4 + 0, none⟩ (hk.kinds 0 _ rfl)) hk.kinds, hbl.range (World.block_lt_of_cell? v ⟨sb, so + 0, none⟩ (hk.spans 0 _ rfl)) hk.spans⟩
  have hmc := merge_callsV (Gd := Gd) (F := F) (v := u) (sts := stsK v.heap.size) (A := some ⟨v.heap.size + 1 + 1, 0, none⟩) (bst := v.heap.size + 1 + 1) (capS := 2) (sb := sb) (so := so) (kc := kc) hgl hGF hku ⟨(show lK.length ≤ 40 by decide), (show tot lK ≤ 300 by decide)⟩ (fun x hx => by simp only [List.mem_cons, List.not_mem_nil, or_false] at hx; rcases hx with rfl | rfl; exact (show bB.size ≤ maxLen by decide); exact (show bA.size ≤ maxLen by decide)) (fun _ => rfl) hst hrow
  have HU := Lib.hid hu
  have HBL := Lib.hid hbl
  clear hu hb0 hb1 hb2 hbl hus rg hst hrow hku hk
  (have tpc := tpC; have tpf := tpF; have tpa := tpA; have tps := tpS; have tph := tpH)
  (refine wpV_seq ?_)
  (refine wpV_region ?_; simp only [List.size_toArray, List.length_cons, List.length_nil, Nat.reduceAdd, Nat.zero_add, List.range, List.range.loop])
  (refine opsV_op_k rfl (by rfl) (fun B hn => opsH hn hgl (by first | rfl | kernel_rfl)) ?_; intro τ p K hK; go_simp; refine hK _ _ ?_; clear hK K p τ; (try walk_nrm))
  (refine opsV_nil ?_; (try dsimp only [thenV_normal, inBV_normal]))
  (refine wpV_seq ?_)
  (refine wpV_region ?_; simp only [List.size_toArray, List.length_cons, List.length_nil, Nat.reduceAdd, Nat.zero_add, List.range, List.range.loop])
  (refine opsV_op_k rfl (by rfl) (fun B hn => opsH hn hgl (by first | rfl | kernel_rfl)) ?_; intro τ p K hK; go_simp; refine hK _ _ ?_; clear hK K p τ; (try walk_nrm))
  (refine opsV_op_k rfl (by rfl) (fun B hn => opsH hn hgl (by first | rfl | kernel_rfl)) ?_; intro τ p K hK; go_simp; refine hK _ _ ?_; clear hK K p τ; (try walk_nrm))
  (refine opsV_op_k rfl (by rfl) (fun B hn => opsH hn hgl (by first | rfl | kernel_rfl)) ?_; intro τ p K hK; go_simp; refine hK _ _ ?_; clear hK K p τ; (try walk_nrm))
  (refine opsV_op_k rfl (by rfl) (fun B hn => opsH hn hgl (by first | rfl | kernel_rfl)) ?_; intro τ p K hK; go_simp; refine hK _ _ ?_; clear hK K p τ; (try walk_nrm))
  (refine opsV_op_k rfl (by rfl) (fun B hn => opsH hn hgl (by first | rfl | kernel_rfl)) ?_; intro τ p K hK; go_simp; refine hK _ _ ?_; clear hK K p τ; (try walk_nrm))
  (refine opsV_op_k rfl (by rfl) (fun B hn => opsH hn hgl (by first | rfl | kernel_rfl)) ?_; intro τ p K hK; go_simp; refine hK _ _ ?_; clear hK K p τ; (try walk_nrm))
  (refine opsV_op_k rfl (by rfl) (fun B hn => opsH hn hgl (by first | rfl | kernel_rfl)) ?_; intro τ p K hK; go_simp; refine hK _ _ ?_; clear hK K p τ; (try walk_nrm))
  (refine opsV_op_k rfl (by rfl) (fun B hn => opsH hn hgl (by first | rfl | kernel_rfl)) ?_; intro τ p K hK; go_simp; refine hK _ _ ?_; clear hK K p τ; (try walk_nrm))
  rw [← HU.out]
  (refine opsV_enter (R := ?R17) rfl (by rfl) (run_callV rfl rfl Tryz.func16 (by kernel_rfl) rfl) (pf_call hgl (by rfl)) ?hc17 ?hn17; case hc17 => (walk_nrm; exact hmc))
  rintro F2 z v2 hR
  obtain ⟨v1, hb1, hm⟩ : ∃ v1, Bl u.heap.size u v1 ∧ MergeRes F v1 (msAll (stsK v.heap.size)) F2 z v2 := by
    rcases hR with ⟨h, _⟩ | ⟨_, h⟩
    · exact absurd allE_K h
    · exact h
  obtain ⟨ls, hperm, hasc, A, cap, rfl, hrow⟩ := mres_list hm
  have hls : ls = [kb1, ka1, kb2] := (merged (L := lK) allE_K hperm hasc).trans rmgK
  subst hls
  obtain ⟨gS, rfl, _, _, hrw⟩ := hrow.resolve_left (by simp)
  have hkk : MrgK F v F2 v2 := MrgK.of (HBL.out.trans (hb1.mono HBL.out.size)) hm
  have m1 := hrw 0 _ rfl 1 _ rfl
  have m5 := hrw 1 _ rfl 1 _ rfl
  have m9 := hrw 2 _ rfl 1 _ rfl
  have m10 := hrw 2 _ rfl 2 _ rfl
  have HK := Lib.hid hkk
  clear hkk hrw hrow hperm hasc hm hb1 hR hmc
  walk_nrm
  (refine opsV_op_k rfl (by rfl) (fun B hn => opsH hn hgl (by first | rfl | kernel_rfl)) ?_; intro τ p K hK; go_simp; refine hK _ _ ?_; clear hK K p τ; (try walk_nrm))
  (refine opsV_op_k rfl (by rfl) (fun B hn => opsH hn hgl (by first | rfl | kernel_rfl)) ?_; intro τ p K hK; go_simp; refine hK _ _ ?_; clear hK K p τ; (try walk_nrm))
  (refine opsV_op_k rfl (by rfl) (fun B hn => opsH hn hgl (by first | rfl | kernel_rfl)) ?_; intro τ p K hK; go_simp; refine hK _ _ ?_; clear hK K p τ; (try walk_nrm))
  (refine opsV_op_k rfl (by rfl) (fun B hn => opsH hn hgl (by first | rfl | kernel_rfl)) ?_; intro τ p K hK; go_simp; refine hK _ _ ?_; clear hK K p τ; (try walk_nrm))
  (refine opsV_op_k rfl (by rfl) (fun B hn => opsH hn hgl (by first | rfl | kernel_rfl)) ?_; intro τ p K hK; go_simp; refine hK _ _ ?_; clear hK K p τ; (try walk_nrm))
  (refine opsV_nil ?_; (try dsimp only [thenV_normal, inBV_normal]))
  (refine wpV_seq ?_)
  (refine wpV_region ?_; simp only [List.size_toArray, List.length_cons, List.length_nil, Nat.reduceAdd, Nat.zero_add, List.range, List.range.loop])
  (refine opsV_op_k rfl (by rfl) (fun B hn => opsH hn hgl (by first | rfl | kernel_rfl)) ?_; intro τ p K hK; go_simp; refine hK _ _ ?_; clear hK K p τ; (try walk_nrm))
  (refine opsV_op_k rfl (by rfl) (fun B hn => opsH hn hgl (by first | rfl | kernel_rfl)) ?_; intro τ p K hK; go_simp; refine hK _ _ ?_; clear hK K p τ; (try walk_nrm))
  (refine opsV_op_k rfl (by rfl) (fun B hn => opsH hn hgl (by first | rfl | kernel_rfl)) ?_; intro τ p K hK; go_simp; refine hK _ _ ?_; clear hK K p τ; (try walk_nrm))
  (refine opsV_op_k rfl (by rfl) (fun B hn => opsH hn hgl (by first | rfl | kernel_rfl)) ?_; intro τ p K hK; go_simp; refine hK _ _ ?_; clear hK K p τ; (try walk_nrm))
  (refine opsV_op_k rfl (by rfl) (fun B hn => opsH hn hgl (by first | rfl | kernel_rfl)) ?_; intro τ p K hK; go_simp; refine hK _ _ ?_; clear hK K p τ; (try walk_nrm))
  (refine opsV_op_k rfl (by rfl) (fun B hn => opsH hn hgl (by first | rfl | kernel_rfl)) ?_; intro τ p K hK; go_simp; refine hK _ _ ?_; clear hK K p τ; (try walk_nrm))
  (refine opsV_op_k rfl (by rfl) (fun B hn => opsH hn hgl (by first | rfl | kernel_rfl)) ?_; intro τ p K hK; go_simp; refine hK _ _ ?_; clear hK K p τ; (try walk_nrm))
  (refine opsV_op_k rfl (by rfl) (fun B hn => opsH hn hgl (by first | rfl | kernel_rfl)) ?_; intro τ p K hK; go_simp; refine hK _ _ ?_; clear hK K p τ; (try walk_nrm))
  (refine opsV_op_k rfl (by rfl) (fun B hn => opsH hn hgl (by first | rfl | kernel_rfl)) ?_; intro τ p K hK; go_simp; refine hK _ _ ?_; clear hK K p τ; (try walk_nrm))
  (refine opsV_op_k rfl (by rfl) (fun B hn => opsH hn hgl (by first | rfl | kernel_rfl)) ?_; intro τ p K hK; go_simp; refine hK _ _ ?_; clear hK K p τ; (try walk_nrm))
  (refine opsV_op_k rfl (by rfl) (fun B hn => opsH hn hgl (by first | rfl | kernel_rfl)) ?_; intro τ p K hK; go_simp; refine hK _ _ ?_; clear hK K p τ; (try walk_nrm))
  (refine opsV_op_k rfl (by rfl) (fun B hn => opsH hn hgl (by first | rfl | kernel_rfl)) ?_; intro τ p K hK; go_simp; refine hK _ _ ?_; clear hK K p τ; (try walk_nrm))
  (refine opsV_pureS (x := .bool true) (es := #[]) rfl (by rfl) (exec_bin rfl (by rfl) (by rfl)) (fun w => by kernel_rfl) (by rfl) (.inr (.bool _)) ?_; (try walk_nrm))
  (refine opsV_op_k rfl (by rfl) (fun B hn => opsH hn hgl (by first | rfl | kernel_rfl)) ?_; intro τ p K hK; go_simp; refine hK _ _ ?_; clear hK K p τ; (try walk_nrm))
  (refine opsV_op_k rfl (by rfl) (fun B hn => opsH hn hgl (by first | rfl | kernel_rfl)) ?_; intro τ p K hK; go_simp; refine hK _ _ ?_; clear hK K p τ; (try walk_nrm))
  (refine opsV_op_k rfl (by rfl) (fun B hn => opsH hn hgl (by first | rfl | kernel_rfl)) ?_; intro τ p K hK; go_simp; refine hK _ _ ?_; clear hK K p τ; (try walk_nrm))
  (refine opsV_op_k rfl (by rfl) (fun B hn => opsH hn hgl (by first | rfl | kernel_rfl)) ?_; intro τ p K hK; go_simp; refine hK _ _ ?_; clear hK K p τ; (try walk_nrm))
  (refine opsV_op_k rfl (by rfl) (fun B hn => opsH hn hgl (by first | rfl | kernel_rfl)) ?_; intro τ p K hK; go_simp; refine hK _ _ ?_; clear hK K p τ; (try walk_nrm))
  (refine opsV_op_k rfl (by rfl) (fun B hn => opsH hn hgl (by first | rfl | kernel_rfl)) ?_; intro τ p K hK; go_simp; refine hK _ _ ?_; clear hK K p τ; (try walk_nrm))
  (refine opsV_pureS (x := .bool true) (es := #[]) rfl (by rfl) (exec_bin rfl (by rfl) (by rfl)) (fun w => by kernel_rfl) (by rfl) (.inr (.bool _)) ?_; (try walk_nrm))
  (refine opsV_op_k rfl (by rfl) (fun B hn => opsH hn hgl (by first | rfl | kernel_rfl)) ?_; intro τ p K hK; go_simp; refine hK _ _ ?_; clear hK K p τ; (try walk_nrm))
  (refine opsV_op_k rfl (by rfl) (fun B hn => opsH hn hgl (by first | rfl | kernel_rfl)) ?_; intro τ p K hK; go_simp; refine hK _ _ ?_; clear hK K p τ; (try walk_nrm))
  (refine opsV_op_k rfl (by rfl) (fun B hn => opsH hn hgl (by first | rfl | kernel_rfl)) ?_; intro τ p K hK; go_simp; refine hK _ _ ?_; clear hK K p τ; (try walk_nrm))
  (refine opsV_op_k rfl (by rfl) (fun B hn => opsH hn hgl (by first | rfl | kernel_rfl)) ?_; intro τ p K hK; go_simp; refine hK _ _ ?_; clear hK K p τ; (try walk_nrm))
  (refine opsV_op_k rfl (by rfl) (fun B hn => opsH hn hgl (by first | rfl | kernel_rfl)) ?_; intro τ p K hK; go_simp; refine hK _ _ ?_; clear hK K p τ; (try walk_nrm))
  (refine opsV_op_k rfl (by rfl) (fun B hn => opsH hn hgl (by first | rfl | kernel_rfl)) ?_; intro τ p K hK; go_simp; refine hK _ _ ?_; clear hK K p τ; (try walk_nrm))
  (refine opsV_pureS (x := .bool true) (es := #[]) rfl (by rfl) (exec_bin rfl (by rfl) (by rfl)) (fun w => by kernel_rfl) (by rfl) (.inr (.bool _)) ?_; (try walk_nrm))
  (refine opsV_op_k rfl (by rfl) (fun B hn => opsH hn hgl (by first | rfl | kernel_rfl)) ?_; intro τ p K hK; go_simp; refine hK _ _ ?_; clear hK K p τ; (try walk_nrm))
  (refine opsV_op_k rfl (by rfl) (fun B hn => opsH hn hgl (by first | rfl | kernel_rfl)) ?_; intro τ p K hK; go_simp; refine hK _ _ ?_; clear hK K p τ; (try walk_nrm))
  (refine opsV_op_k rfl (by rfl) (fun B hn => opsH hn hgl (by first | rfl | kernel_rfl)) ?_; intro τ p K hK; go_simp; refine hK _ _ ?_; clear hK K p τ; (try walk_nrm))
  (refine opsV_op_k rfl (by rfl) (fun B hn => opsH hn hgl (by first | rfl | kernel_rfl)) ?_; intro τ p K hK; go_simp; refine hK _ _ ?_; clear hK K p τ; (try walk_nrm))
  (refine opsV_op_k rfl (by rfl) (fun B hn => opsH hn hgl (by first | rfl | kernel_rfl)) ?_; intro τ p K hK; go_simp; refine hK _ _ ?_; clear hK K p τ; (try walk_nrm))
  (refine opsV_op_k rfl (by rfl) (fun B hn => opsH hn hgl (by first | rfl | kernel_rfl)) ?_; intro τ p K hK; go_simp; refine hK _ _ ?_; clear hK K p τ; (try walk_nrm))
  (refine opsV_op_k rfl (by rfl) (fun B hn => opsH hn hgl (by first | rfl | kernel_rfl)) ?_; intro τ p K hK; go_simp; refine hK _ _ ?_; clear hK K p τ; (try walk_nrm))
  (refine opsV_op_k rfl (by rfl) (fun B hn => opsH hn hgl (by first | rfl | kernel_rfl)) ?_; intro τ p K hK; go_simp; refine hK _ _ ?_; clear hK K p τ; (try walk_nrm))
  (refine opsV_op_k rfl (by rfl) (fun B hn => opsH hn hgl (by first | rfl | kernel_rfl)) ?_; intro τ p K hK; go_simp; refine hK _ _ ?_; clear hK K p τ; (try walk_nrm))
  (refine opsV_nil ?_; (try dsimp only [thenV_normal, inBV_normal]))
  (refine wpV_ret ?_; (try dsimp only [thenV_ret, inBV_ret]))
  exact ⟨.inr rfl, rfl, _, resultsC_tmp (by rfl) _, rfl, HK.out⟩
end
end Go.Proofs.YtmmjlngbiilagaaGreatDoor

/-
  GOROUTINE 0's WALK: what the law's own part keeps; its callees' contracts.
-/
namespace Go.Proofs.YtmmjlngbiilagaaGreatDoor
open Go Go.Conc Go.Shelf Go.RowKit Go.Lib Go.Sort

/-- Foreign blocks are empty. -/
def Emp (F : Nat → Prop) (v : World) : Prop := ∀ a : Addr, F a.block → v.cell? a = none
/-- What was there and is not foreign is kept. -/
structure Kept (F : Nat → Prop) (v v' : World) : Prop where
  os : v'.os = v.os
  output : v'.output = v.output
  size : v.heap.size ≤ v'.heap.size
  block : ∀ b, b < v.heap.size → ¬ F b → v'.heap[b]? = v.heap[b]?
theorem Kept.bl {F : Nat → Prop} {v u u' : World} (h : Kept F v u) (hb : Bl u.heap.size u u') : Kept F v u' :=
  ⟨hb.os.trans h.os, hb.output.trans h.output, Nat.le_trans h.size hb.size, fun b hl hf => (hb.block b (Nat.lt_of_lt_of_le hl h.size)).trans (h.block b hl hf)⟩
theorem Kept.mrg {F F' : Nat → Prop} {v u u' : World} (h : Kept F v u) (hm : MrgK F u F' u') : Kept F v u' :=
  ⟨hm.os.trans h.os, hm.output.trans h.output, Nat.le_trans h.size hm.size, fun b hl hf => (hm.same b (Nat.lt_of_lt_of_le hl h.size) hf).trans (h.block b hl hf)⟩
theorem Kept.set {F : Nat → Prop} {v u u' : World} {t : Addr} {x : Value} (h : Kept F v u) (ht : v.heap.size ≤ t.block) (hs : SetAt t x u u') : Kept F v u' :=
  ⟨hs.os.trans h.os, hs.output.trans h.output, Nat.le_trans h.size hs.size, fun b hl hf => (hs.block b (Nat.lt_of_lt_of_le hl h.size) (by omega)).trans (h.block b hl hf)⟩
theorem SetAt.cell {t : Addr} {x : Value} {v v' : World} (h : SetAt t x v v') {old : Value} (ho : v.cell? t = some old) : v'.cell? t = some x := by
  have e : v'.cell? t = (v.setCell t x).cell? t := by
    simp only [World.cell?]
    rw [h.at_]
  rw [e]
  exact World.cell?_setCell_same _ _ _ ho
theorem SetAt.cell_ne {t : Addr} {x : Value} {v v' : World} (h : SetAt t x v v') {p : Addr} {y : Value} (hp : v.cell? p = some y) (hne : p.block ≠ t.block) : v'.cell? p = some y := by
  have hl := World.block_lt_of_cell? v _ hp
  have := h.block p.block hl hne
  simp only [World.cell?] at hp ⊢
  rw [this]
  exact hp
theorem bl_cell {v v' : World} (h : Bl v.heap.size v v') {p : Addr} {y : Value} (hp : v.cell? p = some y) : v'.cell? p = some y := (h.cell (World.block_lt_of_cell? v _ hp)).trans hp
section
variable {F : Nat → Prop} {v v' : World}
theorem Kept.cell (he : Emp F v) (hk : Kept F v v') {p : Addr} {y : Value} (hp : v.cell? p = some y) : v'.cell? p = some y := by
  have hl := World.block_lt_of_cell? v _ hp
  have hf : ¬ F p.block := fun hf => by rw [he p hf] at hp; cases hp
  have := hk.block p.block hl hf
  simp only [World.cell?] at hp ⊢
  rw [this]
  exact hp
theorem Kept.mrow (he : Emp F v) (hk : Kept F v v') {B : Nat} {A : Option Addr} {ms : List M4} (h : MRow v B A ms) : MRow v' B A ms := h.imp id fun ⟨b, o, h1, h2, h3⟩ => ⟨b, o, h1, h2, fun j x hx => by
  obtain ⟨a, b, c, d⟩ := h3 j x hx
  exact ⟨hk.cell he a, hk.cell he b, hk.cell he c, hk.cell he d⟩⟩
theorem Kept.srow (he : Emp F v) (hk : Kept F v v') {B : Nat} {A : Option Addr} {L : List Strm} (h : SRow v B A L) : SRow v' B A L := h.imp id fun ⟨b, o, h1, h2, h3⟩ => ⟨b, o, h1, h2, fun j x hx => by
  obtain ⟨a, A', cap, c, d⟩ := h3 j x hx
  exact ⟨hk.cell he a, A', cap, hk.cell he c, hk.mrow he d⟩⟩
theorem SRow.more {w : World} {B B' : Nat} {A : Option Addr} {L : List Strm} (h : SRow w B A L) (hB : B ≤ B') : SRow w B' A L := h.imp id fun ⟨b, o, h1, h2, h3⟩ => ⟨b, o, h1, by omega, fun j x hx => by
  obtain ⟨a, A', cap, c, d⟩ := h3 j x hx
  exact ⟨a, A', cap, c, d.more hB⟩⟩
theorem Kept.kinds (he : Emp F v) (hk : Kept F v v') {sb so kc : Nat} (h : KindsAt sb so kc v) : KindsAt sb so kc v' := ⟨fun j x hx => hk.cell he (h.kinds j x hx), fun j x hx => hk.cell he (h.spans j x hx)⟩
theorem Kept.errT (he : Emp F v) (hk : Kept F v v') (h : ErrT v) : ErrT v' := hk.cell he h
theorem tab_keep {v v' : World} (h2 : v'.heap[2]? = v.heap[2]?) (h : Lib.TabIs Vh v "internal/strconv.uint64pow10" .u64 Lib.pow10Tab) : Lib.TabIs Vh v' "internal/strconv.uint64pow10" .u64 Lib.pow10Tab := by
  have hg := ndV.m17
  have h17 : ndT_ren.g 17 = 2 := by kernel_rfl
  rw [h17] at hg
  unfold Lib.TabIs World.var? at h ⊢
  rw [hg] at h ⊢
  simp only [Option.bind_some] at h ⊢
  rw [h2]
  exact h
end
/-- The copies as Merge sees them. -/
theorem own_sts {w : World} {base : Nat} {val : Value} {L : List Strm} (h : OwnS w base val L) (hL : ∀ x ∈ L, x.ms.length ≤ 300) : ∃ (sts : List St4) (A : Option Addr) (bst capS : Nat), val = .slice A sts.length capS ∧ sts.map strm = L ∧
    (0 < sts.length → A = some ⟨bst, 0, none⟩) ∧ (∀ (i : Nat) (x : St4), sts[i]? = some x → x.ok (fun b => b < w.heap.size) w) ∧ (∀ (i : Nat) (x : St4), sts[i]? = some x → w.rangeAt bst (i * 2) x.cells) := by
  obtain ⟨us, hl, hrow, hel⟩ := h
  -- each copy
  have one : ∀ (x : Strm) (u : Value), w.ownsRow base 50 4 u x.ms.length (cellsL x.ms) → x.ms.length ≤ 300 → ∃ s : St4, strm s = x ∧ u = .slice s.a0 s.n s.cap ∧ s.ok (fun b => b < w.heap.size) w := fun x u ho hlx => by
    by_cases h0 : x.ms = []
    · rcases ho.2 with ⟨rfl, _⟩ | ⟨g, cap, cur, rfl, _, hh, _⟩
      · exact ⟨⟨x.mem, none, 0, 0, 0, x.ms⟩, rfl, rfl, by simp [h0], by simp, fun h => absurd h (Nat.lt_irrefl _), fun h => absurd h (Nat.lt_irrefl _), fun j y hy => by rw [h0] at hy; cases hy⟩
      · refine ⟨⟨x.mem, some ⟨g, 0, none⟩, g, x.ms.length, cap, x.ms⟩, rfl, rfl, rfl, by show x.ms.length ≤ _; omega, fun _ => rfl, fun _ => heap_lt hh, fun j y hy => by rw [h0] at hy; cases hy⟩
    · obtain ⟨g, cap, rfl, _, hg, _, hm⟩ := row_own ho h0
      refine ⟨⟨x.mem, some ⟨g, 0, none⟩, g, x.ms.length, cap, x.ms⟩, rfl, rfl, rfl, by show x.ms.length ≤ _; omega, fun _ => rfl, fun _ => hg, fun j y hy => ?_⟩
      rcases hm with e | ⟨b, o, e, _, hc⟩
      · exact absurd e h0
      · cases e
        obtain ⟨h1, h2, h3, h4⟩ := hc j y hy
        simp only [Nat.zero_add] at h1 h2 h3 h4
        intro r z hz
        have hr : r < 4 := (List.getElem?_eq_some_iff.1 hz).1
        obtain rfl | rfl | rfl | rfl : r = 0 ∨ r = 1 ∨ r = 2 ∨ r = 3 := by omega
        all_goals (cases hz; assumption)
  have all : ∀ (L : List Strm) (us : List Value), us.length = L.length → (∀ x ∈ L, x.ms.length ≤ 300) → (∀ (j : Nat) (u : Value) (x : Strm), us[j]? = some u → L[j]? = some x → w.ownsRow base 50 4 u x.ms.length (cellsL x.ms)) →
      ∃ sts : List St4, sts.map strm = L ∧ (∀ x ∈ sts, x.ok (fun b => b < w.heap.size) w) ∧ ((L.zip us).flatMap fun p => [Value.string p.1.mem, p.2]) = sts.flatMap St4.cells := by
    intro L
    induction L with
    | nil => intro us _ _ _; exact ⟨[], rfl, by simp, by simp⟩
    | cons x L ih =>
      intro us hus hx3 hrel
      cases us with
      | nil => simp at hus
      | cons u us =>
        obtain ⟨s, e1, e2, e3⟩ := one x u (hrel 0 u x rfl rfl) (hx3 x (by simp))
        obtain ⟨sts, f1, f2, f3⟩ := ih us (by simpa using hus) (fun y hy => hx3 y (by simp [hy])) (fun j t y h1 h2 => hrel (j + 1) t y (by simpa using h1) (by simpa using h2))
        refine ⟨s :: sts, by simp [e1, f1], fun y hy => ?_, ?_⟩
        · rcases List.mem_cons.1 hy with rfl | hy
          · exact e3
          · exact f2 y hy
        · rw [List.zip_cons_cons, List.flatMap_cons, List.flatMap_cons, f3, e2, ← e1]
          rfl
  obtain ⟨sts, f1, f2, f3⟩ := all L us hl hL hel
  have hlen : sts.length = L.length := by rw [← f1]; simp
  rw [f3] at hrow
  have hok : ∀ (i : Nat) (x : St4), sts[i]? = some x → x.ok (fun b => b < w.heap.size) w := fun i x hx => f2 x (List.mem_of_getElem? hx)
  have hfl : ∀ (sts : List St4) (i : Nat) (x : St4), sts[i]? = some x → ∀ r, r < 2 → (sts.flatMap St4.cells)[i * 2 + r]? = x.cells[r]? := by
    intro sts
    induction sts with
    | nil => intro i x hx; cases hx
    | cons s sts ih =>
      intro i x hx r hr
      have e : (s :: sts).flatMap St4.cells = s.cells ++ sts.flatMap St4.cells := by simp
      have hl : s.cells.length = 2 := rfl
      rw [e]
      cases i with
      | zero =>
        cases hx
        rw [List.getElem?_append_left (by omega)]
        simp
      | succ i =>
        rw [List.getElem?_append_right (by omega), hl]
        have e2 : (i + 1) * 2 + r - 2 = i * 2 + r := by omega
        rw [e2]
        exact ih i x (by simpa using hx) r hr
  rcases hrow.2 with ⟨rfl, h0⟩ | ⟨g, cap, cur, rfl, _, hh, hnc, _, hsz, ht⟩
  · have h0' : sts.length = 0 := by omega
    exact ⟨sts, none, 0, 0, by rw [h0'], f1, fun h => by omega, hok, fun i x hx => by rw [List.length_eq_zero_iff.1 h0'] at hx; cases hx⟩
  · refine ⟨sts, some ⟨g, 0, none⟩, g, cap, by rw [hlen], f1, fun _ => rfl, hok, fun i x hx r z hz => ?_⟩
    have hr : r < 2 := (List.getElem?_eq_some_iff.1 hz).1
    have hi : i < sts.length := (List.getElem?_eq_some_iff.1 hx).1
    rw [cell_of_row w g _ _ _ _ hh]
    have h1 := hfl sts i x hx r hr
    rw [hz, ← ht, List.getElem?_take, if_pos (by omega)] at h1
    simpa using h1
end Go.Proofs.YtmmjlngbiilagaaGreatDoor

/-
  GOROUTINE 0's WALK: the law compares what was taken with the reference's merge: a region whose order is drawn.
-/
namespace Go.Proofs.YtmmjlngbiilagaaGreatDoor
open Go Go.Conc Go.Shelf Go.RowKit Go.Lib Go.Sort

noncomputable def bodyGE : Code := Tryz.f3.body.getD .skip
noncomputable def ops13G : Array Oper := match bodyGE with | .seq _ (.seq _ (.seq _ (.seq _ (.seq _ (.seq _ (.seq _ (.seq _ (.seq _ (.seq _ (.seq (.seq (.region _ ops _) _) _)))))))))) => ops | _ => #[]
noncomputable def ops18G : Array Oper := match bodyGE with | .seq _ (.seq _ (.seq _ (.seq _ (.seq _ (.seq _ (.seq _ (.seq _ (.seq _ (.seq _ (.seq _ (.seq (.seq _ (.cond _ _ (.seq (.region _ ops _) _))) _))))))))))) => ops | _ => #[]
example : ops13G.size = 9 := by kernel_rfl
example : ops18G.size = 32 := by kernel_rfl
def Z13 (gc n m : Nat) (A1 A3 : Option Addr) (c1 c3 : Nat) (i : Nat) (z : Value) : Prop :=
  match i with
  | 0 | 1 | 2 => z = .pointer (some ⟨gc, 0, none⟩)
  | 3 => z = .slice A1 n c1
  | 4 => z = .slice A3 m c3
  | 5 => z = .int .i64 n
  | 6 => z = .slice A3 n c3
  | 7 => z = .bool true
  | _ => z = .bool false
section
variable {Gd : GB} {F : Nat → Prop} {v0 : World}
set_option maxRecDepth 100000 in
set_option maxHeartbeats 8000000 in
theorem r13_step (hgl : ∀ g, glH g = true → Gd g) {gc n m c1 c3 : Nat} {A1 A3 : Option Addr} (hcell : ∀ w, Bl v0.heap.size v0 w → w.cell? ⟨gc, 0, none⟩ = some (.slice A1 n c1)) (hnm : n ≤ m) (hmc : m ≤ c3)
    (hsame : ∀ w, Bl v0.heap.size v0 w → CallsV Vh Tryz.prog Gd 12 #[.slice A1 n c1, .slice A3 n c3] F w fun F' z v' => F' = F ∧ z = .bool true ∧ Bl w.heap.size w v')
    (a0 : Act) (ha7 : a0.tmps[7]? = some (.pointer (some ⟨gc, 0, none⟩))) (ha12 : a0.tmps[12]? = some (.slice A3 m c3)) (ha13 : a0.tmps[13]? = some (.int .i64 n)) :
    ∀ i o, ops13G[i]? = some o → ∀ L a v, L i = false → (∀ e ∈ o.after, Region.binds .any e = true → L e.on = true) → RJ ops13G a0 (fun i z _ => Z13 gc n m A1 A3 c1 c3 i z) (UR v0) L a v →
      Op1V Vh Tryz.prog Gd 3 ops13G i (fun a' v' => ∃ z, a' = a.put o.dst z ∧ (o.dst ≠ none → Z13 gc n m A1 A3 c1 c3 i z) ∧ UR v0 (updL L i) v' ∧ ∀ j u, L j = true → Z13 gc n m A1 A3 c1 c3 j u → Z13 gc n m A1 A3 c1 c3 j u) F a v := by
  intro i o ho L a v hL hdep hJ
  have f7 : a.tmps[7]?.getD undef = .pointer (some ⟨gc, 0, none⟩) := by rw [hJ.old' (s := 7) (by kernel_rfl), ha7]; rfl
  have f12 : a.tmps[12]?.getD undef = .slice A3 m c3 := by rw [hJ.old' (s := 12) (by kernel_rfl), ha12]; rfl
  have f13 : a.tmps[13]?.getD undef = .int .i64 n := by rw [hJ.old' (s := 13) (by kernel_rfl), ha13]; rfl
  have hlt : i < 9 := (Array.getElem?_eq_some_iff.1 ho).1
  have hS : Bl v0.heap.size v0 v := hJ.s
  have hnc : n ≤ c3 := by omega
  (have tpc := tpC; have tpf := tpF; have tpa := tpA; have tps := tpS; have tph := tpH)
  have ho2 := ho
  simp only [ops13G, bodyGE, Tryz.f3, Option.getD_some] at ho2
  obtain rfl | rfl | rfl | rfl | rfl | rfl | rfl | rfl | rfl : i = 0 ∨ i = 1 ∨ i = 2 ∨ i = 3 ∨ i = 4 ∨ i = 5 ∨ i = 6 ∨ i = 7 ∨ i = 8 := by omega
  all_goals simp only [List.getElem?_toArray, List.getElem?_cons_succ, List.getElem?_cons_zero, Option.some.injEq] at ho2
  all_goals subst ho2
  -- STEPS
  · refine op1V_op ho (by rfl) (fun B hn => opsH hn hgl (by rfl)) (fun τ p => ?_)
    clear hJ hdep ho
    go_simp
    exact ⟨v, rfl, _, rfl, rfl, hS⟩
  · have h0 : a.tmps[72]?.getD undef = .pointer (some ⟨gc, 0, none⟩) := by have := hJ.val' (j := 0) (s := 72) (by kernel_rfl) (hdep ⟨0, .data⟩ (by simp) rfl); simpa only [Z13, Array.getD_eq_getD_getElem?] using this
    refine op1V_op ho (by rfl) (fun B hn => opsH hn hgl (by rfl)) (fun τ p => ?_)
    clear hJ hdep ho
    go_simp
    exact ⟨v, rfl, _, rfl, rfl, hS⟩
  · have h1 : a.tmps[73]?.getD undef = .pointer (some ⟨gc, 0, none⟩) := by have := hJ.val' (j := 1) (s := 73) (by kernel_rfl) (hdep ⟨1, .data⟩ (by simp) rfl); simpa only [Z13, Array.getD_eq_getD_getElem?] using this
    refine op1V_op ho (by rfl) (fun B hn => opsH hn hgl (by rfl)) (fun τ p => ?_)
    clear hJ hdep ho
    go_simp
    exact ⟨v, rfl, _, rfl, rfl, hS⟩
  · have h2 : a.tmps[74]?.getD undef = .pointer (some ⟨gc, 0, none⟩) := by have := hJ.val' (j := 2) (s := 74) (by kernel_rfl) (hdep ⟨2, .data⟩ (by simp) rfl); simpa only [Z13, Array.getD_eq_getD_getElem?] using this
    have c0 := hcell v hS
    refine op1V_op ho (by rfl) (fun B hn => opsH hn hgl (by rfl)) (fun τ p => ?_)
    clear hJ hdep ho
    go_simp
    exact ⟨v, rfl, _, rfl, rfl, hS⟩
  · refine op1V_op ho (by rfl) (fun B hn => opsH hn hgl (by rfl)) (fun τ p => ?_)
    clear hJ hdep ho
    go_simp
    exact ⟨v, rfl, _, rfl, rfl, hS⟩
  · refine op1V_op ho (by rfl) (fun B hn => opsH hn hgl (by rfl)) (fun τ p => ?_)
    clear hJ hdep ho
    go_simp
    exact ⟨v, rfl, _, rfl, rfl, hS⟩
  · have h4 : a.tmps[76]?.getD undef = .slice A3 m c3 := by have := hJ.val' (j := 4) (s := 76) (by kernel_rfl) (hdep ⟨4, .data⟩ (by simp) rfl); simpa only [Z13, Array.getD_eq_getD_getElem?] using this
    have h5 : a.tmps[77]?.getD undef = .int .i64 n := by have := hJ.val' (j := 5) (s := 77) (by kernel_rfl) (hdep ⟨5, .data⟩ (by simp) rfl); simpa only [Z13, Array.getD_eq_getD_getElem?] using this
    refine op1V_op ho (by rfl) (fun B hn => opsH hn hgl (by rfl)) (fun τ p => ?_)
    clear hJ hdep ho
    go_simp
    exact ⟨v, rfl, _, rfl, rfl, hS⟩
  · have h3 : a.tmps[75]?.getD undef = .slice A1 n c1 := by have := hJ.val' (j := 3) (s := 75) (by kernel_rfl) (hdep ⟨3, .data⟩ (by simp) rfl); simpa only [Z13, Array.getD_eq_getD_getElem?] using this
    have h6 : a.tmps[78]?.getD undef = .slice A3 n c3 := by have := hJ.val' (j := 6) (s := 78) (by kernel_rfl) (hdep ⟨6, .data⟩ (by simp) rfl); simpa only [Z13, Array.getD_eq_getD_getElem?] using this
    refine op1V_enter (R := fun z v' => z = .bool true ∧ Bl v.heap.size v v') ho (by rfl) (run_callV rfl rfl Tryz.func12 (by kernel_rfl) rfl) (pf_call hgl (by rfl)) ?_ fun z v' ⟨hz, hb⟩ => ⟨z, rfl, fun _ => hz, hS.trans (hb.mono hS.size), fun _ _ _ h => h⟩
    have e : ((#[] : Array Value) ++ (#[Operand.tmp 75, Operand.tmp 78] : Array Operand).map a.eval ++ #[]) = #[.slice A1 n c1, .slice A3 n c3] := by simp [Act.eval, h3, h6]
    rw [e]
    exact hsame v hS
  · have h7 : a.tmps[79]?.getD undef = .bool true := by have := hJ.val' (j := 7) (s := 79) (by kernel_rfl) (hdep ⟨7, .data⟩ (by simp) rfl); simpa only [Z13, Array.getD_eq_getD_getElem?] using this
    refine op1V_op ho (by rfl) (fun B hn => opsH hn hgl (by rfl)) (fun τ p => ?_)
    clear hJ hdep ho
    go_simp
    exact ⟨v, rfl, _, rfl, rfl, hS⟩
  -- END
end
end Go.Proofs.YtmmjlngbiilagaaGreatDoor
