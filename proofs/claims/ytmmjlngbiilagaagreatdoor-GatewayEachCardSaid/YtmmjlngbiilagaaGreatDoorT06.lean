/-
  THE LIBRARY's FUNCTIONS AND TYPES, BY THEIR NUMBERS IN THIS PROGRAM.
-/
import Derived.Test.YtmmjlngbiilagaaGreatDoorT05
import Derived.Test.YtmmjlngbiilagaaGreatDoorChecked
import Derived.Conc.WgGenDone
import Derived.Conc.WgGenWait
import Derived.Conc.WgGenLone
import Derived.Conc.WgGenN3
import Derived.Conc.CompanyMem

namespace Go.Proofs.YtmmjlngbiilagaaGreatDoor
open Go.Conc.Lib

def lk : WgLink := { add := 27, done := 29, wait := 33, relMerge := 40, disable := 41, enable := 42, inBubble := 43, associate := 44, fatal := 45, uOr := 46, uAdd := 47, raceRead := 48, uLoad := 49, uStore := 50, disassociate := 51, semrelease := 52, acquire := 58, isAssociated := 59, uCas := 60, raceWrite := 61, semacquire := 62, orU64 := 67, addU64 := 68, loadU64 := 69, storeU64 := 70, casU64 := 83, tWgP := 116, tUP := 65, tAssoc := 118, tWg := 91, tAU := 88, tU64 := 86, tUint := 122, tU32 := 89, tPU32 := 123, tPAU := 141, tPU64 := 143, tNoCopy := 83, tANoCopy := 84, tAlign64 := 85 }
theorem lib : WgLib Tryz.prog lk :=
  ⟨Tryz.func27, Tryz.func29, Tryz.func33, Tryz.func40, Tryz.func41, Tryz.func42, Tryz.func43, Tryz.func44, Tryz.func45, Tryz.func46, Tryz.func47, Tryz.func48, Tryz.func49, Tryz.func50, Tryz.func51, Tryz.func52, Tryz.func58, Tryz.func59, Tryz.func60, Tryz.func61, Tryz.func62, Tryz.func67, Tryz.func68, Tryz.func69, Tryz.func70, Tryz.func83, Tryz.underlying116, Tryz.runUnderlying116, Tryz.sizeOf116, Tryz.isAgg116, Tryz.zeroValue116, Tryz.underlying65, Tryz.runUnderlying65, Tryz.sizeOf65, Tryz.isAgg65, Tryz.zeroValue65, Tryz.underlying118, Tryz.runUnderlying118, Tryz.sizeOf118, Tryz.isAgg118, Tryz.zeroValue118, Tryz.underlying91, Tryz.runUnderlying91, Tryz.sizeOf91, Tryz.isAgg91, Tryz.zeroValue91, Tryz.underlying88, Tryz.runUnderlying88, Tryz.sizeOf88, Tryz.isAgg88, Tryz.zeroValue88, Tryz.underlying86, Tryz.runUnderlying86, Tryz.sizeOf86, Tryz.isAgg86, Tryz.zeroValue86, Tryz.underlying122, Tryz.runUnderlying122, Tryz.sizeOf122, Tryz.isAgg122, Tryz.zeroValue122, Tryz.underlying89, Tryz.runUnderlying89, Tryz.sizeOf89, Tryz.isAgg89, Tryz.zeroValue89, Tryz.underlying123, Tryz.runUnderlying123, Tryz.sizeOf123, Tryz.isAgg123, Tryz.zeroValue123, Tryz.underlying141, Tryz.runUnderlying141, Tryz.sizeOf141, Tryz.isAgg141, Tryz.zeroValue141, Tryz.underlying143, Tryz.runUnderlying143, Tryz.sizeOf143, Tryz.isAgg143, Tryz.zeroValue143, Tryz.underlying0, Tryz.runUnderlying0, Tryz.sizeOf0, Tryz.isAgg0, Tryz.zeroValue0, Tryz.underlying3, Tryz.runUnderlying3, Tryz.sizeOf3, Tryz.isAgg3, Tryz.zeroValue3, Tryz.underlying4, Tryz.runUnderlying4, Tryz.sizeOf4, Tryz.isAgg4, Tryz.zeroValue4, Tryz.underlying9, Tryz.runUnderlying9, Tryz.sizeOf9, Tryz.isAgg9, Tryz.zeroValue9, Tryz.underlying20, Tryz.runUnderlying20, Tryz.sizeOf20, Tryz.isAgg20, Tryz.zeroValue20, Tryz.underlying21, Tryz.runUnderlying21, Tryz.sizeOf21, Tryz.isAgg21, Tryz.zeroValue21, (by kernel_rfl), (by kernel_rfl)⟩
end Go.Proofs.YtmmjlngbiilagaaGreatDoor

/-
  THE LIBRARY's Add(-1), AS A SENDER's Done CALLS IT, IN COMPANY THAT MAKES BLOCKS: 'release and merge', 'disable', the atomic add; then it only leaves, or it is the last one and releases the semaphore.
-/
namespace Go.Proofs.YtmmjlngbiilagaaGreatDoor
open Go Go.Conc Go.RowKit Go.Conc.Lib Go.ConcR.Gen
open Go.ConcR (KK wgBlock WgAt stA smA rd wr mk DC0)
open Go.ConcN (WgLive AtD4 WD st_flag st_waiters)

section
variable {P : Program} {L : WgLink} {Wg : Nat}

theorem live0 {ty : TypeId} {w : World} (h : WgLive ty Wg w) : ∃ v, w.cell? ⟨Wg, 0, none⟩ = some v := let ⟨_, _, x⟩ := h; ⟨_, x.cellSt⟩
theorem lvR {ty : TypeId} {S : Nat → Prop} {w w₁ : World} (h : WgLive ty Wg w) (r : Rl ty Wg S w w₁) : WgLive ty Wg w₁ := r.live h

set_option maxRecDepth 100000 in
set_option maxHeartbeats 8000000 in
theorem addNegF (H : WgLib P L) {b₀ : Frame} {a₀ : Act} {ops₀ : Array Oper} {i₀ : Nat} {rest₀ : List Nat} {k₀ : List Item} {cs : List Frame} {qt : Nat}
    (hT : QuitsD P qt 0 (G (b₀.at (a₀.put ((ops₀[i₀]?).bind (·.dst)) (.tuple #[])) (.inRegion ops₀ rest₀ :: k₀)) cs)) (w : World) (hK : WgLive L.tWg Wg w) :
    Goes P false (Rg L.tWg Wg) DC0 (SR0 P L.tWg Wg) 40 (G ((base L.add).at ⟨#[.pointer (some ⟨Wg, 0, none⟩), .int .i64 (-1), undef, undef, undef, undef, undef, undef, undef, undef, undef, undef, undef, undef, undef, undef, undef, undef, undef, undef, undef, undef, undef, undef, undef, undef, undef, undef, undef, undef, undef, undef, undef, undef, undef, undef, undef, undef, undef, undef, undef, undef, undef, undef, undef, undef, undef, undef, undef, undef, undef, undef, undef, undef, undef, undef, undef, undef, undef, undef, undef, undef, undef, undef, undef, undef, undef, undef, undef, undef, undef, undef, undef, undef, undef, undef, undef, undef, undef, undef, undef, undef, undef, undef, undef, undef, undef, undef, undef, undef, undef, undef, undef, undef, undef, undef, undef, undef, undef, undef, undef, undef, undef, undef, undef, undef, undef, undef, undef, undef, undef, undef, undef, undef, undef, undef, undef], []⟩ [.code (body_add L)]) (b₀.at a₀ (.inRegion ops₀ (i₀ :: rest₀) :: k₀) :: cs)) w := by
  lib_facts
  simp only [body_add, addFn, Option.getD_some]
  unfold Rg
  u_c stepG_seq lvR hK
  u_cond true lvR hK
  u_c stepG_seq lvR hK
  u_c stepG_seq lvR hK
  u_reg lvR hK
  u_op lvR hK
  u_op lvR hK
  u_c stepG_region_end lvR hK
  u_cond true lvR hK
  u_reg lvR hK
  u_op lvR hK
  u_conv H.underlying_tWgP H.room_tWg (live0 hK).choose_spec lvR hK
  refine Goes.stop (fun w₁ h₁ => ?_)
  replace hK := lvR hK h₁
  clear h₁
  refine ⟨rfl, _, stepG_markAt .releaseMerge (by simp) rfl rfl (by k_ne) rfl H.f_relMerge (x_relMerge_n L) (x_relMerge_b L) (x_relMerge_x L) (x_relMerge_f L) (by simp [Act.eval, stA]), 40, ?_⟩
  walk_nrm
  unfold Rg
  u_c stepG_region_end lvR hK
  u_c stepG_seq lvR hK
  u_reg lvR hK
  refine Goes.stop (fun w₁ h₁ => ?_)
  replace hK := lvR hK h₁
  clear h₁
  refine ⟨rfl, _, stepG_mark0 .disable (by simp) rfl rfl (by k_ne) rfl H.f_disable (x_disable_n L) (x_disable_b L) (x_disable_x L) (x_disable_f L), 100, ?_⟩
  walk_nrm
  unfold Rg
  u_c stepG_region_end lvR hK
  u_reg lvR hK
  u_defer lvR hK
  u_c stepG_region_end lvR hK
  u_c stepG_seq lvR hK
  u_reg lvR hK
  u_op lvR hK
  u_c stepG_region_end lvR hK
  u_c stepG_seq lvR hK
  u_c stepG_seq lvR hK
  u_reg lvR hK
  u_bub lvR hK
  u_c stepG_region_end lvR hK
  u_cond false lvR hK
  u_c stepG_skip lvR hK
  u_c stepG_seq lvR hK
  u_reg lvR hK
  u_op lvR hK
  u_op lvR hK
  u_op lvR hK
  u_op lvR hK
  u_op lvR hK
  u_op lvR hK
  u_call H.f_uAdd (nm_uAdd L) uAddFn lvR hK
  u_c stepG_seq lvR hK
  u_reg lvR hK
  u_op lvR hK
  u_c stepG_region_end lvR hK
  u_c stepG_seq lvR hK
  u_reg lvR hK
  u_op lvR hK
  u_op lvR hK
  u_op lvR hK
  u_op lvR hK
  refine Goes.stop (fun w₁ h₁ => ?_)
  clear h₁ hK
  refine ⟨rfl, fun v wt hwt hv hw => ?_⟩
  have e0 : IntKind.u64.wrap (KK + 18446744069414584320) = 0 := by decide
  have e1 : IntKind.u64.wrap (KK + 1 + 18446744069414584320) = 1 := by decide
  rcases Nat.eq_zero_or_pos v with rfl | hvp
  · obtain rfl | rfl : wt = 0 ∨ wt = 1 := by omega
    · replace hw : WgAt L.tWg Wg w₁ KK 0 := by simpa using hw
      have z : ((0 : Nat) : Int) * KK + ((0 : Nat) : Int) = 0 := by simp
      rw [z]
      refine ⟨_, (stepG_add_atomic rfl rfl (by k_ne) rfl H.f_addU64 (x_addU64_n L) (x_addU64_b L) (x_addU64_x L) .u64 (x_addU64_f L) rfl rfl hw.cellSt (hw.thaw 0)).trans (by rw [e0]; rfl), fun hl => absurd hl.2 (by decide), fun _ => ⟨qt + 89, ?_⟩⟩
      clear hw
      walk_nrm
      (refine QuitsD.value ?_ rfl rfl (by k_ne) (fun _ => run_eq_of fun Kx hKx => by go_simp; (try w_num); exact hKx) (fun _ => by simp [go_sem, *]) ?_; walk_nrm)
      q_c stepG_region_end
      q_c stepG_ret'
      q_leave1 H.f_uAdd
      (refine QuitsD.value ?_ rfl rfl (by k_ne) (fun _ => run_eq_of fun Kx hKx => by go_simp; (try w_num); exact hKx) (fun _ => by simp [go_sem, *]) ?_; walk_nrm)
      q_c stepG_region_end
      q_c stepG_seq
      q_c stepG_seq
      q_reg
      (refine QuitsD.value ?_ rfl rfl (by k_ne) (fun _ => run_eq_of fun Kx hKx => by go_simp; (try w_num); exact hKx) (fun _ => by simp [go_sem, *]) ?_; walk_nrm)
      (refine QuitsD.value ?_ rfl rfl (by k_ne) (fun _ => run_eq_of fun Kx hKx => by go_simp; (try w_num); exact hKx) (fun _ => by simp [go_sem, *]) ?_; walk_nrm)
      (refine QuitsD.value ?_ rfl rfl (by k_ne) (fun _ => run_eq_of fun Kx hKx => by go_simp; (try w_num); exact hKx) (fun _ => by simp [go_sem, *]) ?_; walk_nrm)
      (refine QuitsD.value ?_ rfl rfl (by k_ne) (fun _ => run_eq_of fun Kx hKx => by go_simp; (try w_num); exact hKx) (fun _ => by simp [go_sem, *]) ?_; walk_nrm)
      q_skip
      q_skip
      (refine QuitsD.value ?_ rfl rfl (by k_ne) (fun _ => run_eq_of fun Kx hKx => by go_simp; (try w_num); exact hKx) (fun _ => by simp [go_sem, *]) ?_; walk_nrm)
      q_c stepG_region_end
      q_cond false
      q_c stepG_skip
      q_c stepG_seq
      q_reg
      (refine QuitsD.value ?_ rfl rfl (by k_ne) (fun _ => run_eq_of fun Kx hKx => by go_simp; (try w_num); exact hKx) (fun _ => by simp [go_sem, *]) ?_; walk_nrm)
      (refine QuitsD.value ?_ rfl rfl (by k_ne) (fun _ => run_eq_of fun Kx hKx => by go_simp; (try w_num); exact hKx) (fun _ => by simp [go_sem, *]) ?_; walk_nrm)
      (refine QuitsD.value ?_ rfl rfl (by k_ne) (fun _ => run_eq_of fun Kx hKx => by go_simp; (try w_num); exact hKx) (fun _ => by simp [go_sem, *]) ?_; walk_nrm)
      (refine QuitsD.value ?_ rfl rfl (by k_ne) (fun _ => run_eq_of fun Kx hKx => by go_simp; (try w_num); exact hKx) (fun _ => by simp [go_sem, *]) ?_; walk_nrm)
      q_c stepG_region_end
      q_c stepG_seq
      q_reg
      (refine QuitsD.value ?_ rfl rfl (by k_ne) (fun _ => run_eq_of fun Kx hKx => by go_simp; (try w_num); exact hKx) (fun _ => by simp [go_sem, *]) ?_; walk_nrm)
      (refine QuitsD.value ?_ rfl rfl (by k_ne) (fun _ => run_eq_of fun Kx hKx => by go_simp; (try w_num); exact hKx) (fun _ => by simp [go_sem, *]) ?_; walk_nrm)
      (refine QuitsD.value ?_ rfl rfl (by k_ne) (fun _ => run_eq_of fun Kx hKx => by go_simp; (try w_num); exact hKx) (fun _ => by simp [go_sem, *]) ?_; walk_nrm)
      (refine QuitsD.value ?_ rfl rfl (by k_ne) (fun _ => run_eq_of fun Kx hKx => by go_simp; (try w_num); exact hKx) (fun _ => by simp [go_sem, *]) ?_; walk_nrm)
      q_c stepG_region_end
      q_c stepG_seq
      q_c stepG_seq
      q_reg
      (refine QuitsD.value ?_ rfl rfl (by k_ne) (fun _ => run_eq_of fun Kx hKx => by go_simp; (try w_num); exact hKx) (fun _ => by simp [go_sem, *]) ?_; walk_nrm)
      (refine QuitsD.value ?_ rfl rfl (by k_ne) (fun _ => run_eq_of fun Kx hKx => by go_simp; (try w_num); exact hKx) (fun _ => by simp [go_sem, *]) ?_; walk_nrm)
      (refine QuitsD.value ?_ rfl rfl (by k_ne) (fun _ => run_eq_of fun Kx hKx => by go_simp; (try w_num); exact hKx) (fun _ => by simp [go_sem, *]) ?_; walk_nrm)
      (refine QuitsD.value ?_ rfl rfl (by k_ne) (fun _ => run_eq_of fun Kx hKx => by go_simp; (try w_num); exact hKx) (fun _ => by simp [go_sem, *]) ?_; walk_nrm)
      (refine QuitsD.value ?_ rfl rfl (by k_ne) (fun _ => run_eq_of fun Kx hKx => by go_simp; (try w_num); exact hKx) (fun _ => by simp [go_sem, *]) ?_; walk_nrm)
      q_skip
      q_skip
      q_skip
      q_skip
      (refine QuitsD.value ?_ rfl rfl (by k_ne) (fun _ => run_eq_of fun Kx hKx => by go_simp; (try w_num); exact hKx) (fun _ => by simp [go_sem, *]) ?_; walk_nrm)
      q_c stepG_region_end
      q_cond false
      q_c stepG_skip
      q_c stepG_seq
      q_c stepG_seq
      q_reg
      (refine QuitsD.value ?_ rfl rfl (by k_ne) (fun _ => run_eq_of fun Kx hKx => by go_simp; (try w_num); exact hKx) (fun _ => by simp [go_sem, *]) ?_; walk_nrm)
      (refine QuitsD.value ?_ rfl rfl (by k_ne) (fun _ => run_eq_of fun Kx hKx => by go_simp; (try w_num); exact hKx) (fun _ => by simp [go_sem, *]) ?_; walk_nrm)
      q_c stepG_region_end
      q_cond false
      q_c stepG_skip
      q_c stepG_seq
      q_c stepG_seq
      q_reg
      (refine QuitsD.value ?_ rfl rfl (by k_ne) (fun _ => run_eq_of fun Kx hKx => by go_simp; (try w_num); exact hKx) (fun _ => by simp [go_sem, *]) ?_; walk_nrm)
      (refine QuitsD.value ?_ rfl rfl (by k_ne) (fun _ => run_eq_of fun Kx hKx => by go_simp; (try w_num); exact hKx) (fun _ => by simp [go_sem, *]) ?_; walk_nrm)
      (refine QuitsD.value ?_ rfl rfl (by k_ne) (fun _ => run_eq_of fun Kx hKx => by go_simp; (try w_num); exact hKx) (fun _ => by simp [go_sem, *]) ?_; walk_nrm)
      q_skip
      q_skip
      (refine QuitsD.value ?_ rfl rfl (by k_ne) (fun _ => run_eq_of fun Kx hKx => by go_simp; (try w_num); exact hKx) (fun _ => by simp [go_sem, *]) ?_; walk_nrm)
      (refine QuitsD.value ?_ rfl rfl (by k_ne) (fun _ => run_eq_of fun Kx hKx => by go_simp; (try w_num); exact hKx) (fun _ => by simp [go_sem, *]) ?_; walk_nrm)
      q_skip
      q_skip
      q_skip
      q_skip
      (refine QuitsD.value ?_ rfl rfl (by k_ne) (fun _ => run_eq_of fun Kx hKx => by go_simp; (try w_num); exact hKx) (fun _ => by simp [go_sem, *]) ?_; walk_nrm)
      q_c stepG_region_end
      q_cond false
      q_c stepG_skip
      q_c stepG_seq
      q_c stepG_seq
      q_reg
      (refine QuitsD.value ?_ rfl rfl (by k_ne) (fun _ => run_eq_of fun Kx hKx => by go_simp; (try w_num); exact hKx) (fun _ => by simp [go_sem, *]) ?_; walk_nrm)
      (refine QuitsD.value ?_ rfl rfl (by k_ne) (fun _ => run_eq_of fun Kx hKx => by go_simp; (try w_num); exact hKx) (fun _ => by simp [go_sem, *]) ?_; walk_nrm)
      (refine QuitsD.value ?_ rfl rfl (by k_ne) (fun _ => run_eq_of fun Kx hKx => by go_simp; (try w_num); exact hKx) (fun _ => by simp [go_sem, *]) ?_; walk_nrm)
      (refine QuitsD.value ?_ rfl rfl (by k_ne) (fun _ => run_eq_of fun Kx hKx => by go_simp; (try w_num); exact hKx) (fun _ => by simp [go_sem, *]) ?_; walk_nrm)
      (refine QuitsD.value ?_ rfl rfl (by k_ne) (fun _ => run_eq_of fun Kx hKx => by go_simp; (try w_num); exact hKx) (fun _ => by simp [go_sem, *]) ?_; walk_nrm)
      (refine QuitsD.value ?_ rfl rfl (by k_ne) (fun _ => run_eq_of fun Kx hKx => by go_simp; (try w_num); exact hKx) (fun _ => by simp [go_sem, *]) ?_; walk_nrm)
      q_c stepG_region_end
      q_cond true
      q_c stepG_ret'
      q_enable
      q_leave0 H.f_add
      exact hT
    · -- the last one
      replace hw : WgAt L.tWg Wg w₁ (KK + 1) 0 := by simpa using hw
      have z : ((0 : Nat) : Int) * KK + ((1 : Nat) : Int) = 1 := by simp
      rw [z]
      refine ⟨_, (stepG_add_atomic rfl rfl (by k_ne) rfl H.f_addU64 (x_addU64_n L) (x_addU64_b L) (x_addU64_x L) .u64 (x_addU64_f L) rfl rfl hw.cellSt (hw.thaw 0)).trans (by rw [e1]; rfl), fun _ => ⟨150, ?_⟩, fun hl => absurd ⟨rfl, rfl⟩ hl⟩
      have hF : WgLive L.tWg Wg (w₁.setCell (stA Wg) (.int .u64 1)) := ⟨_, _, hw.setSt 1⟩
      clear hw
      walk_nrm
      unfold Rg
      u_op lvR hF
      u_c stepG_region_end lvR hF
      u_c stepG_ret' lvR hF
      u_leave1 H.f_uAdd lvR hF
      u_op lvR hF
      u_c stepG_region_end lvR hF
      u_c stepG_seq lvR hF
      u_c stepG_seq lvR hF
      u_reg lvR hF
      u_op lvR hF
      u_op lvR hF
      u_op lvR hF
      u_op lvR hF
      u_skip lvR hF
      u_skip lvR hF
      u_op lvR hF
      u_c stepG_region_end lvR hF
      u_cond false lvR hF
      u_c stepG_skip lvR hF
      u_c stepG_seq lvR hF
      u_reg lvR hF
      u_op lvR hF
      u_op lvR hF
      u_op lvR hF
      u_op lvR hF
      u_c stepG_region_end lvR hF
      u_c stepG_seq lvR hF
      u_reg lvR hF
      u_op lvR hF
      u_op lvR hF
      u_op lvR hF
      u_op lvR hF
      u_c stepG_region_end lvR hF
      u_c stepG_seq lvR hF
      u_c stepG_seq lvR hF
      u_reg lvR hF
      u_op lvR hF
      u_op lvR hF
      u_op lvR hF
      u_op lvR hF
      u_op lvR hF
      u_skip lvR hF
      u_skip lvR hF
      u_skip lvR hF
      u_skip lvR hF
      u_op lvR hF
      u_c stepG_region_end lvR hF
      u_cond false lvR hF
      u_c stepG_skip lvR hF
      u_c stepG_seq lvR hF
      u_c stepG_seq lvR hF
      u_reg lvR hF
      u_op lvR hF
      u_op lvR hF
      u_c stepG_region_end lvR hF
      u_cond false lvR hF
      u_c stepG_skip lvR hF
      u_c stepG_seq lvR hF
      u_c stepG_seq lvR hF
      u_reg lvR hF
      u_op lvR hF
      u_op lvR hF
      u_op lvR hF
      u_op lvR hF
      u_op lvR hF
      u_op lvR hF
      u_op lvR hF
      u_skip lvR hF
      u_skip lvR hF
      u_skip lvR hF
      u_skip lvR hF
      u_op lvR hF
      u_c stepG_region_end lvR hF
      u_cond false lvR hF
      u_c stepG_skip lvR hF
      u_c stepG_seq lvR hF
      u_c stepG_seq lvR hF
      u_reg lvR hF
      u_op lvR hF
      u_op lvR hF
      u_op lvR hF
      u_op lvR hF
      u_op lvR hF
      u_op lvR hF
      u_c stepG_region_end lvR hF
      u_cond false lvR hF
      u_c stepG_skip lvR hF
      u_c stepG_seq lvR hF
      u_c stepG_seq lvR hF
      u_reg lvR hF
      u_op lvR hF
      u_op lvR hF
      u_op lvR hF
      u_call H.f_uLoad (nm_uLoad L) uLoadFn lvR hF
      u_c stepG_seq lvR hF
      u_reg lvR hF
      u_op lvR hF
      u_c stepG_region_end lvR hF
      u_c stepG_seq lvR hF
      u_reg lvR hF
      u_op lvR hF
      u_op lvR hF
      u_op lvR hF
      refine Goes.stop (fun w₂ h₂ => ?_)
      clear h₂ hF
      refine ⟨rfl, fun hw => ⟨_, stepG_load_atomic rfl rfl (by k_ne) rfl H.f_loadU64 (x_loadU64_n L) (x_loadU64_b L) (x_loadU64_x L) .u64 (x_loadU64_f L) rfl hw.cellSt, 60, ?_⟩⟩
      have hF : WgLive L.tWg Wg w₂ := ⟨_, _, hw⟩
      clear hw
      walk_nrm
      unfold Rg
      u_op lvR hF
      u_c stepG_region_end lvR hF
      u_c stepG_ret' lvR hF
      u_leave1 H.f_uLoad lvR hF
      u_op lvR hF
      u_op lvR hF
      u_c stepG_region_end lvR hF
      u_cond false lvR hF
      u_c stepG_skip lvR hF
      u_c stepG_seq lvR hF
      u_reg lvR hF
      u_op lvR hF
      u_op lvR hF
      u_op lvR hF
      u_call H.f_uStore (nm_uStore L) uStoreFn lvR hF
      u_reg lvR hF
      u_op lvR hF
      u_op lvR hF
      u_op lvR hF
      u_op lvR hF
      refine Goes.stop (fun w₃ h₃ => ?_)
      clear h₃ hF
      refine ⟨rfl, fun hw => ⟨_, stepG_store_atomic rfl rfl (by k_ne) rfl H.f_storeU64 (x_storeU64_n L) (x_storeU64_b L) (x_storeU64_x L) (x_storeU64_f L) rfl rfl hw.cellSt (hw.thaw 0), 60, ?_⟩⟩
      have hF : WgLive L.tWg Wg (w₃.setCell (stA Wg) (.int .u64 0)) := ⟨_, _, hw.setSt 0⟩
      clear hw
      walk_nrm
      unfold Rg
      u_c stepG_region_end lvR hF
      u_c stepG_end lvR hF
      u_leave0 H.f_uStore lvR hF
      u_c stepG_region_end lvR hF
      u_c stepG_seq lvR hF
      u_c stepG_seq lvR hF
      u_reg lvR hF
      u_op lvR hF
      u_c stepG_region_end lvR hF
      u_cond false lvR hF
      u_c stepG_skip lvR hF
      u_c stepG_block lvR hF
      u_c stepG_loop lvR hF
      u_c stepG_seq lvR hF
      u_c stepG_seq lvR hF
      u_reg lvR hF
      u_op lvR hF
      u_op lvR hF
      u_c stepG_region_end lvR hF
      u_cond true lvR hF
      u_c stepG_skip lvR hF
      u_c stepG_seq lvR hF
      u_c stepG_block lvR hF
      u_reg lvR hF
      u_op lvR hF
      u_op lvR hF
      u_op lvR hF
      refine Goes.stop (fun w₄ h₄ => ?_)
      clear h₄ hF
      refine ⟨rfl, mayWake_entry rfl rfl H.f_semrelease (x_semrelease_b L), fun hw => ⟨_, (stepG_semrelease rfl rfl (by k_ne) rfl H.f_semrelease (x_semrelease_n L) (x_semrelease_b L) (x_semrelease_x L) (x_semrelease_f L) (by simp [Act.eval, smA]) hw.cellSm (hw.thaw 1)).trans (by rfl), qt + 19, ?_⟩⟩
      clear hw
      walk_nrm
      q_c stepG_region_end
      q_c stepG_inBlock
      q_reg
      (refine QuitsD.value ?_ rfl rfl (by k_ne) (fun _ => run_eq_of fun Kx hKx => by go_simp; (try w_num); exact hKx) (fun _ => by simp [go_sem, *]) ?_; walk_nrm)
      (refine QuitsD.value ?_ rfl rfl (by k_ne) (fun _ => run_eq_of fun Kx hKx => by go_simp; (try w_num); exact hKx) (fun _ => by simp [go_sem, *]) ?_; walk_nrm)
      (refine QuitsD.value ?_ rfl rfl (by k_ne) (fun _ => run_eq_of fun Kx hKx => by go_simp; (try w_num); exact hKx) (fun _ => by simp [go_sem, *]) ?_; walk_nrm)
      q_c stepG_region_end
      q_c stepG_inLoop
      q_c stepG_seq
      q_c stepG_seq
      q_reg
      (refine QuitsD.value ?_ rfl rfl (by k_ne) (fun _ => run_eq_of fun Kx hKx => by go_simp; (try w_num); exact hKx) (fun _ => by simp [go_sem, *]) ?_; walk_nrm)
      (refine QuitsD.value ?_ rfl rfl (by k_ne) (fun _ => run_eq_of fun Kx hKx => by go_simp; (try w_num); exact hKx) (fun _ => by simp [go_sem, *]) ?_; walk_nrm)
      q_c stepG_region_end
      q_cond false
      q_exit
      q_c stepG_end
      q_enable
      q_leave0 H.f_add
      exact hT
  · obtain rfl | rfl : wt = 0 ∨ wt = 1 := by omega
    · have eS : IntKind.u64.wrap (((v : Nat) + 1) * KK + 0 + 18446744069414584320) = (v : Int) * KK + 0 := by rw [IntKind.wrap_u64]; simp only [KK]; omega
      replace hw : WgAt L.tWg Wg w₁ (((v : Nat) + 1) * KK + 0) 0 := by simpa using hw
      have z : (v : Int) * KK + ((0 : Nat) : Int) = (v : Int) * KK + 0 := by simp
      rw [z]
      obtain ⟨S, hS⟩ : ∃ S : Int, S = (v : Int) * KK + 0 := ⟨_, rfl⟩
      rw [← hS] at eS ⊢
      have a1 : S / 4294967296 = (v : Int) := by rw [hS]; simp only [KK]; omega
      have a2 : 0 ≤ S ∧ S < 9223372036854775808 := by rw [hS]; simp only [KK]; omega
      have b1 : bits .and .u64 S 2147483648 = 0 := by rw [hS]; have := st_flag v 0 (by omega) (by omega); simpa [KK] using this
      have b2 : bits .and .u64 S 2147483647 = 0 := by rw [hS]; have := st_waiters v 0 (by omega) (by omega); simpa [KK] using this
      clear hS z
      refine ⟨_, (stepG_add_atomic rfl rfl (by k_ne) rfl H.f_addU64 (x_addU64_n L) (x_addU64_b L) (x_addU64_x L) .u64 (x_addU64_f L) rfl rfl hw.cellSt (hw.thaw 0)).trans (by rw [eS]; rfl), fun hl => absurd hl.1 (by omega), fun _ => ⟨qt + 89, ?_⟩⟩
      clear hw
      walk_nrm
      q_vn (.int .u64 S)
      q_c stepG_region_end
      q_c stepG_ret'
      q_leave1 H.f_uAdd
      q_vn (.int .u64 S)
      q_c stepG_region_end
      q_c stepG_seq
      q_c stepG_seq
      q_reg
      q_vn (.int .u64 S)
      q_vn (.int .u64 0)
      q_vn (.bool false)
      q_vn (.bool false)
      q_skip
      q_skip
      q_vn (.bool false)
      q_c stepG_region_end
      q_cond false
      q_c stepG_skip
      q_c stepG_seq
      q_reg
      q_vn (.int .u64 S)
      q_vn (.int .u64 (v : Int))
      q_vn (.int .i32 (v : Int))
      q_vn (.int .i32 (v : Int))
      q_c stepG_region_end
      q_c stepG_seq
      q_reg
      q_vn (.int .u64 S)
      q_vn (.int .u64 0)
      q_vn (.int .u32 0)
      q_vn (.int .u32 0)
      q_c stepG_region_end
      q_c stepG_seq
      q_c stepG_seq
      q_reg
      q_vn (.bool true)
      q_vn (.int .i64 (-1))
      q_vn (.bool false)
      q_vn (.bool false)
      q_vn (.bool false)
      q_skip
      q_skip
      q_skip
      q_skip
      q_vn (.bool false)
      q_c stepG_region_end
      q_cond false
      q_c stepG_skip
      q_c stepG_seq
      q_c stepG_seq
      q_reg
      q_vn (.int .i32 (v : Int))
      q_vn (.bool false)
      q_c stepG_region_end
      q_cond false
      q_c stepG_skip
      q_c stepG_seq
      q_c stepG_seq
      q_reg
      q_vn (.int .u32 0)
      q_vn (.bool false)
      q_vn (.bool false)
      q_skip
      q_skip
      q_vn (.bool false)
      q_vn (.bool false)
      q_skip
      q_skip
      q_skip
      q_skip
      q_vn (.bool false)
      q_c stepG_region_end
      q_cond false
      q_c stepG_skip
      q_c stepG_seq
      q_c stepG_seq
      q_reg
      q_vn (.int .i32 (v : Int))
      q_vn (.bool true)
      q_vn (.bool true)
      q_skip
      q_skip
      q_vn (.bool true)
      q_c stepG_region_end
      q_cond true
      q_c stepG_ret'
      q_enable
      q_leave0 H.f_add
      exact hT
    · have eS : IntKind.u64.wrap (((v : Nat) + 1) * KK + 1 + 18446744069414584320) = (v : Int) * KK + 1 := by rw [IntKind.wrap_u64]; simp only [KK]; omega
      replace hw : WgAt L.tWg Wg w₁ (((v : Nat) + 1) * KK + 1) 0 := by simpa using hw
      have z : (v : Int) * KK + ((1 : Nat) : Int) = (v : Int) * KK + 1 := by simp
      rw [z]
      obtain ⟨S, hS⟩ : ∃ S : Int, S = (v : Int) * KK + 1 := ⟨_, rfl⟩
      rw [← hS] at eS ⊢
      have a1 : S / 4294967296 = (v : Int) := by rw [hS]; simp only [KK]; omega
      have a2 : 0 ≤ S ∧ S < 9223372036854775808 := by rw [hS]; simp only [KK]; omega
      have b1 : bits .and .u64 S 2147483648 = 0 := by rw [hS]; have := st_flag v 1 (by omega) (by omega); simpa [KK] using this
      have b2 : bits .and .u64 S 2147483647 = 1 := by rw [hS]; have := st_waiters v 1 (by omega) (by omega); simpa [KK] using this
      clear hS z
      refine ⟨_, (stepG_add_atomic rfl rfl (by k_ne) rfl H.f_addU64 (x_addU64_n L) (x_addU64_b L) (x_addU64_x L) .u64 (x_addU64_f L) rfl rfl hw.cellSt (hw.thaw 0)).trans (by rw [eS]; rfl), fun hl => absurd hl.1 (by omega), fun _ => ⟨qt + 89, ?_⟩⟩
      clear hw
      walk_nrm
      q_vn (.int .u64 S)
      q_c stepG_region_end
      q_c stepG_ret'
      q_leave1 H.f_uAdd
      q_vn (.int .u64 S)
      q_c stepG_region_end
      q_c stepG_seq
      q_c stepG_seq
      q_reg
      q_vn (.int .u64 S)
      q_vn (.int .u64 0)
      q_vn (.bool false)
      q_vn (.bool false)
      q_skip
      q_skip
      q_vn (.bool false)
      q_c stepG_region_end
      q_cond false
      q_c stepG_skip
      q_c stepG_seq
      q_reg
      q_vn (.int .u64 S)
      q_vn (.int .u64 (v : Int))
      q_vn (.int .i32 (v : Int))
      q_vn (.int .i32 (v : Int))
      q_c stepG_region_end
      q_c stepG_seq
      q_reg
      q_vn (.int .u64 S)
      q_vn (.int .u64 1)
      q_vn (.int .u32 1)
      q_vn (.int .u32 1)
      q_c stepG_region_end
      q_c stepG_seq
      q_c stepG_seq
      q_reg
      q_vn (.bool true)
      q_vn (.int .i64 (-1))
      q_vn (.bool false)
      q_vn (.bool false)
      q_vn (.bool false)
      q_skip
      q_skip
      q_skip
      q_skip
      q_vn (.bool false)
      q_c stepG_region_end
      q_cond false
      q_c stepG_skip
      q_c stepG_seq
      q_c stepG_seq
      q_reg
      q_vn (.int .i32 (v : Int))
      q_vn (.bool false)
      q_c stepG_region_end
      q_cond false
      q_c stepG_skip
      q_c stepG_seq
      q_c stepG_seq
      q_reg
      q_vn (.int .u32 1)
      q_vn (.bool true)
      q_vn (.bool true)
      q_vn (.int .i64 (-1))
      q_vn (.bool false)
      q_vn (.bool false)
      q_vn (.bool false)
      q_skip
      q_skip
      q_skip
      q_skip
      q_vn (.bool false)
      q_c stepG_region_end
      q_cond false
      q_c stepG_skip
      q_c stepG_seq
      q_c stepG_seq
      q_reg
      q_vn (.int .i32 (v : Int))
      q_vn (.bool true)
      q_vn (.bool true)
      q_skip
      q_skip
      q_vn (.bool true)
      q_c stepG_region_end
      q_cond true
      q_c stepG_ret'
      q_enable
      q_leave0 H.f_add
      exact hT
end
end Go.Proofs.YtmmjlngbiilagaaGreatDoor

/-
  THE LIBRARY's Done, A DEFERRED CALL, AND Add(+1), IN COMPANY THAT MAKES BLOCKS.
-/
namespace Go.Proofs.YtmmjlngbiilagaaGreatDoor
open Go Go.Conc Go.RowKit Go.Conc.Lib Go.ConcR.Gen
open Go.ConcR (KK wgBlock WgAt stA smA rd wr mk DC0)
open Go.ConcN (WgLive AtD4 WD st_flag st_waiters)

section
variable {P : Program} {L : WgLink} {Wg : Nat}

theorem live1 {ty : TypeId} {w : World} (h : WgLive ty Wg w) : ∃ v, w.cell? ⟨Wg, 1, none⟩ = some v := let ⟨_, _, x⟩ := h; ⟨_, x.cellSm⟩

set_option maxRecDepth 100000 in
theorem doneF (H : WgLib P L) {c : Frame} {cs : List Frame} {qt : Nat} (hcm : c.mode = .returning) (hT : QuitsD P qt 0 (G c cs)) (w : World) (hK : WgLive L.tWg Wg w) :
    Goes P false (Rg L.tWg Wg) DC0 (SR0 P L.tWg Wg) 43 (G ((baseD L.done).at ⟨#[.pointer (some ⟨Wg, 0, none⟩), undef, undef, undef], []⟩ [.code (body_done L)]) (c :: cs)) w := by
  lib_facts
  have hA := @addNegF P L Wg H
  simp only [body_done, body_add, doneFn, addFn, Option.getD_some] at hA ⊢
  unfold Rg at hA ⊢
  u_reg lvR hK
  u_op lvR hK
  u_in lvR hK
  refine goes_call rfl rfl (by k_ne) rfl H.f_add (nm_add L) rfl ⟨by u_nil, ?_⟩
  walk_nrmf addFn
  refine hA (qt := qt + 3) ?_ _ hK
  q_c stepG_region_end
  q_c stepG_end
  exact QuitsD.leaveD rfl rfl H.f_done rfl hcm hT

set_option maxRecDepth 100000 in
set_option maxHeartbeats 8000000 in
/-- Add(+1). 'Next': where it has come back to its caller. -/
theorem addPosF (H : WgLib P L) {S : Nat → Prop} {Next Nx : Goroutine → World → Prop} {b₀ : Frame} {a₀ : Act} {ops₀ : Array Oper} {i₀ : Nat} {rest₀ : List Nat} {k₀ : List Item} {cs : List Frame} {F : World → Prop}
    (hF : ∀ w w', Rl L.tWg Wg S w w' → F w → F w') (hFs : ∀ w v, F w → WgLive L.tWg Wg w → F (w.setCell (stA Wg) v))
    (hN : ∀ m g w, Goes P true (Rl L.tWg Wg S) DC0 Nx m g w → Next g w) (hT : ∀ w, F w ∧ WgLive L.tWg Wg w → Nx (G (b₀.at (a₀.put ((ops₀[i₀]?).bind (·.dst)) (.tuple #[])) (.inRegion ops₀ rest₀ :: k₀)) cs) w) (w : World) (hK : F w ∧ WgLive L.tWg Wg w) :
    Goes P true (Rl L.tWg Wg S) DC0 (AKd P L.tWg Wg S Next) 40 (G ((base L.add).at ⟨#[.pointer (some ⟨Wg, 0, none⟩), .int .i64 1, undef, undef, undef, undef, undef, undef, undef, undef, undef, undef, undef, undef, undef, undef, undef, undef, undef, undef, undef, undef, undef, undef, undef, undef, undef, undef, undef, undef, undef, undef, undef, undef, undef, undef, undef, undef, undef, undef, undef, undef, undef, undef, undef, undef, undef, undef, undef, undef, undef, undef, undef, undef, undef, undef, undef, undef, undef, undef, undef, undef, undef, undef, undef, undef, undef, undef, undef, undef, undef, undef, undef, undef, undef, undef, undef, undef, undef, undef, undef, undef, undef, undef, undef, undef, undef, undef, undef, undef, undef, undef, undef, undef, undef, undef, undef, undef, undef, undef, undef, undef, undef, undef, undef, undef, undef, undef, undef, undef, undef, undef, undef, undef, undef, undef, undef], []⟩ [.code (body_add L)]) (b₀.at a₀ (.inRegion ops₀ (i₀ :: rest₀) :: k₀) :: cs)) w := by
  have rl : ∀ {w w₁ : World}, (F w ∧ WgLive L.tWg Wg w) → Rl L.tWg Wg S w w₁ → F w₁ ∧ WgLive L.tWg Wg w₁ := fun h r => ⟨hF _ _ r h.1, r.live h.2⟩
  lib_facts
  simp only [body_add, addFn, Option.getD_some]
  u_c stepG_seq rl hK
  u_cond true rl hK
  u_c stepG_seq rl hK
  u_c stepG_seq rl hK
  u_reg rl hK
  u_op rl hK
  u_op rl hK
  u_c stepG_region_end rl hK
  u_cond false rl hK
  u_c stepG_skip rl hK
  u_c stepG_seq rl hK
  u_reg rl hK
  refine Goes.stop (fun w₁ h₁ => ?_)
  replace hK := rl hK h₁
  clear h₁
  refine ⟨rfl, _, stepG_mark0 .disable (by simp) rfl rfl (by k_ne) rfl H.f_disable (x_disable_n L) (x_disable_b L) (x_disable_x L) (x_disable_f L), 100, ?_⟩
  walk_nrm
  u_c stepG_region_end rl hK
  u_reg rl hK
  u_defer rl hK
  u_c stepG_region_end rl hK
  u_c stepG_seq rl hK
  u_reg rl hK
  u_op rl hK
  u_c stepG_region_end rl hK
  u_c stepG_seq rl hK
  u_c stepG_seq rl hK
  u_reg rl hK
  u_bub rl hK
  u_c stepG_region_end rl hK
  u_cond false rl hK
  u_c stepG_skip rl hK
  u_c stepG_seq rl hK
  u_reg rl hK
  u_op rl hK
  u_op rl hK
  u_op rl hK
  u_op rl hK
  u_op rl hK
  u_op rl hK
  u_call H.f_uAdd (nm_uAdd L) uAddFn rl hK
  u_c stepG_seq rl hK
  u_reg rl hK
  u_op rl hK
  u_c stepG_region_end rl hK
  u_c stepG_seq rl hK
  u_reg rl hK
  u_op rl hK
  u_op rl hK
  u_op rl hK
  u_op rl hK
  refine Goes.stop (fun w₁ h₁ => ?_)
  replace hK := rl hK h₁
  clear h₁
  refine ⟨rfl, fun v hv hw => ?_⟩
  rcases Nat.eq_zero_or_pos v with rfl | hvp
  · replace hw : WgAt L.tWg Wg w₁ 0 0 := by simpa using hw
    have z : (((0 : Nat) : Int) + 1) * KK = KK := by simp
    rw [z]
    have e0 : IntKind.u64.wrap (0 + 4294967296) = KK := by decide
    refine ⟨_, (stepG_add_atomic rfl rfl (by k_ne) rfl H.f_addU64 (x_addU64_n L) (x_addU64_b L) (x_addU64_x L) .u64 (x_addU64_f L) rfl rfl hw.cellSt (hw.thaw 0)).trans (by rw [e0]; rfl), fun _ => ⟨120, ?_⟩, fun h => absurd rfl h⟩
    replace hK : F (w₁.setCell (stA Wg) (.int .u64 KK)) ∧ WgLive L.tWg Wg (w₁.setCell (stA Wg) (.int .u64 KK)) := ⟨hFs _ _ hK.1 hK.2, ⟨_, _, hw.setSt _⟩⟩
    have b1 : bits .and .u64 KK 2147483648 = 0 := by decide
    have b2 : bits .and .u64 KK 2147483647 = 0 := by decide
    have b3 : KK / 4294967296 = 1 := by decide
    clear hw z e0
    walk_nrm
    u_op rl hK
    u_c stepG_region_end rl hK
    u_c stepG_ret' rl hK
    u_leave1 H.f_uAdd rl hK
    u_op rl hK
    u_c stepG_region_end rl hK
    u_c stepG_seq rl hK
    u_c stepG_seq rl hK
    u_reg rl hK
    u_op rl hK
    u_op rl hK
    u_op rl hK
    u_op rl hK
    u_skip rl hK
    u_skip rl hK
    u_op rl hK
    u_c stepG_region_end rl hK
    u_cond false rl hK
    u_c stepG_skip rl hK
    u_c stepG_seq rl hK
    u_reg rl hK
    u_op rl hK
    u_op rl hK
    u_op rl hK
    u_op rl hK
    u_c stepG_region_end rl hK
    u_c stepG_seq rl hK
    u_reg rl hK
    u_op rl hK
    u_op rl hK
    u_op rl hK
    u_op rl hK
    u_c stepG_region_end rl hK
    u_c stepG_seq rl hK
    u_c stepG_seq rl hK
    u_reg rl hK
    u_op rl hK
    u_op rl hK
    u_op rl hK
    u_op rl hK
    u_op rl hK
    u_op rl hK
    u_op rl hK
    u_op rl hK
    u_op rl hK
    u_op rl hK
    u_c stepG_region_end rl hK
    u_cond true rl hK
    u_reg rl hK
    u_op rl hK
    u_op rl hK
    u_op rl hK
    u_conv H.underlying_tPU32 H.room_tU32 (live1 hK.2).choose_spec rl hK
    refine Goes.stop (fun w₂ h₂ => ?_)
    replace hK := rl hK h₂
    clear h₂
    refine ⟨rfl, _, stepG_markAt .read (by simp) rfl rfl (by k_ne) rfl H.f_raceRead (x_raceRead_n L) (x_raceRead_b L) (x_raceRead_x L) (x_raceRead_f L) (ad := ⟨_, 1, none⟩) (by simp [Act.eval] <;> rfl), 60, ?_⟩
    walk_nrm
    u_c stepG_region_end rl hK
    u_c stepG_seq rl hK
    u_c stepG_seq rl hK
    u_reg rl hK
    u_op rl hK
    u_op rl hK
    u_c stepG_region_end rl hK
    u_cond false rl hK
    u_c stepG_skip rl hK
    u_c stepG_seq rl hK
    u_c stepG_seq rl hK
    u_reg rl hK
    u_op rl hK
    u_op rl hK
    u_op rl hK
    u_skip rl hK
    u_skip rl hK
    u_op rl hK
    u_op rl hK
    u_skip rl hK
    u_skip rl hK
    u_skip rl hK
    u_skip rl hK
    u_op rl hK
    u_c stepG_region_end rl hK
    u_cond false rl hK
    u_c stepG_skip rl hK
    u_c stepG_seq rl hK
    u_c stepG_seq rl hK
    u_reg rl hK
    u_op rl hK
    u_op rl hK
    u_op rl hK
    u_skip rl hK
    u_skip rl hK
    u_op rl hK
    u_c stepG_region_end rl hK
    u_cond true rl hK
    u_c stepG_ret' rl hK
    refine Goes.stop (fun w₃ h₃ => ?_)
    replace hK := rl hK h₃
    clear h₃
    refine ⟨rfl, _, stepG_unwind_entry (v := .tuple #[]) (evs := #[mk .enable]) rfl H.f_enable (x_enable_n L) (x_enable_b L) (x_enable_x L) (x_enable_f L) (by simp [Extern.Race.none_]) (by simp [mk]) (by simp [mk]), hN 1 _ _ ?_⟩
    u_leave0 H.f_add rl hK
    exact Goes.stop fun w₄ h₄ => hT _ (rl hK h₄)
  · obtain ⟨V, hV⟩ : ∃ V : Int, V = (v : Int) + 1 := ⟨_, rfl⟩
    obtain ⟨T, hS⟩ : ∃ T : Int, T = V * KK := ⟨_, rfl⟩
    have eS : IntKind.u64.wrap ((v : Int) * KK + 4294967296) = T := by rw [IntKind.wrap_u64, hS, hV]; simp only [KK]; omega
    have z : ((v : Int) + 1) * KK = T := by rw [hS, hV]
    rw [z]
    refine ⟨_, (stepG_add_atomic rfl rfl (by k_ne) rfl H.f_addU64 (x_addU64_n L) (x_addU64_b L) (x_addU64_x L) .u64 (x_addU64_f L) rfl rfl hw.cellSt (hw.thaw 0)).trans (by rw [eS]; rfl), fun h => absurd h (by omega), fun _ => ⟨120, ?_⟩⟩
    replace hK : F (w₁.setCell (stA Wg) (.int .u64 T)) ∧ WgLive L.tWg Wg (w₁.setCell (stA Wg) (.int .u64 T)) := ⟨hFs _ _ hK.1 hK.2, ⟨_, _, hw.setSt _⟩⟩
    have a1 : T / 4294967296 = V := by rw [hS]; simp only [KK]; omega
    have b1 : bits .and .u64 T 2147483648 = 0 := by rw [hS, hV]; have := st_flag (v + 1) 0 (by omega) (by omega); simpa [KK] using this
    have b2 : bits .and .u64 T 2147483647 = 0 := by rw [hS, hV]; have := st_waiters (v + 1) 0 (by omega) (by omega); simpa [KK] using this
    have c1 : IntKind.i32.wrap V = V := by rw [IntKind.wrap_i32]; omega
    have hV1 : 1 < V := by omega
    have hV2 : V < 2147483648 := by omega
    have q1 : (V == 1) = false := by simp; omega
    have q2 : decide (V = 1) = false := decide_eq_false (by omega)
    have q3 : decide (V < 0) = false := decide_eq_false (by omega)
    have q4 : decide (0 < V) = true := decide_eq_true (by omega)
    have q5 : (V == 0) = false := by simp; omega
    have q6 : decide (V = 0) = false := decide_eq_false (by omega)
    clear hw z eS hS hV
    walk_nrm
    u_op rl hK
    u_c stepG_region_end rl hK
    u_c stepG_ret' rl hK
    u_leave1 H.f_uAdd rl hK
    u_op rl hK
    u_c stepG_region_end rl hK
    u_c stepG_seq rl hK
    u_c stepG_seq rl hK
    u_reg rl hK
    u_op rl hK
    u_op rl hK
    u_op rl hK
    u_op rl hK
    u_skip rl hK
    u_skip rl hK
    u_op rl hK
    u_c stepG_region_end rl hK
    u_cnd false rl hK
    u_c stepG_skip rl hK
    u_c stepG_seq rl hK
    u_reg rl hK
    u_op rl hK
    u_op rl hK
    u_op rl hK
    u_op rl hK
    u_c stepG_region_end rl hK
    u_c stepG_seq rl hK
    u_reg rl hK
    u_op rl hK
    u_op rl hK
    u_op rl hK
    u_op rl hK
    u_c stepG_region_end rl hK
    u_c stepG_seq rl hK
    u_c stepG_seq rl hK
    u_reg rl hK
    u_op rl hK
    u_op rl hK
    u_op rl hK
    u_op rl hK
    u_op rl hK
    u_op rl hK
    u_op rl hK
    u_op rl hK
    u_op rl hK
    u_op rl hK
    u_c stepG_region_end rl hK
    u_cnd false rl hK
    u_c stepG_skip rl hK
    u_c stepG_seq rl hK
    u_c stepG_seq rl hK
    u_reg rl hK
    u_op rl hK
    u_op rl hK
    u_c stepG_region_end rl hK
    u_cnd false rl hK
    u_c stepG_skip rl hK
    u_c stepG_seq rl hK
    u_c stepG_seq rl hK
    u_reg rl hK
    u_op rl hK
    u_op rl hK
    u_op rl hK
    u_skip rl hK
    u_skip rl hK
    u_op rl hK
    u_op rl hK
    u_skip rl hK
    u_skip rl hK
    u_skip rl hK
    u_skip rl hK
    u_op rl hK
    u_c stepG_region_end rl hK
    u_cnd false rl hK
    u_c stepG_skip rl hK
    u_c stepG_seq rl hK
    u_c stepG_seq rl hK
    u_reg rl hK
    u_op rl hK
    u_op rl hK
    u_op rl hK
    u_skip rl hK
    u_skip rl hK
    u_op rl hK
    u_c stepG_region_end rl hK
    u_cnd true rl hK
    u_c stepG_ret' rl hK
    refine Goes.stop (fun w₃ h₃ => ?_)
    replace hK := rl hK h₃
    clear h₃
    refine ⟨rfl, _, stepG_unwind_entry (v := .tuple #[]) (evs := #[mk .enable]) rfl H.f_enable (x_enable_n L) (x_enable_b L) (x_enable_x L) (x_enable_f L) (by simp [Extern.Race.none_]) (by simp [mk]) (by simp [mk]), hN 1 _ _ ?_⟩
    u_leave0 H.f_add rl hK
    exact Goes.stop fun w₄ h₄ => hT _ (rl hK h₄)
end
end Go.Proofs.YtmmjlngbiilagaaGreatDoor

/-
  THE LIBRARY's Wait, IN COMPANY THAT MAKES BLOCKS: from its call to its loop's head; from there: the count is 0, or it registers (or misses, and tries again), is woken, and leaves.
-/
namespace Go.Proofs.YtmmjlngbiilagaaGreatDoor
open Go Go.Conc Go.RowKit Go.Conc.Lib Go.ConcR.Gen
open Go.ConcR (KK wgBlock WgAt stA smA rd wr mk DC0)
open Go.ConcN (WgLive AtD4 WD st_flag st_waiters)

/-- At the head of Wait's loop. -/
def AnchF (L : WgLink) (F : World → Prop) (Wg : Nat) (c : Frame) (cs : List Frame) (g : Goroutine) (w : World) : Prop :=
  ∃ T : Array Value, g = G ((base L.wait).at ⟨T, []⟩ [.code (L7 L), .inLoop (L7 L), .inBlock 0]) (c :: cs) ∧ T.size = 84 ∧ T[0]? = some (.pointer (some ⟨Wg, 0, none⟩)) ∧ F w ∧ WgLive L.tWg Wg w

section
variable {P : Program} {L : WgLink} {Wg : Nat}

set_option maxRecDepth 100000 in
set_option maxHeartbeats 8000000 in
theorem waitRoundF (H : WgLib P L) {S : Nat → Prop} {Next Nx : Goroutine → World → Prop} {b₀ : Frame} {a₀ : Act} {ops₀ : Array Oper} {i₀ : Nat} {rest₀ : List Nat} {k₀ : List Item} {cs : List Frame} {F : World → Prop}
    (hF : ∀ w w', Rl L.tWg Wg S w w' → F w → F w') (hFs : ∀ w v, F w → WgLive L.tWg Wg w → F (w.setCell (stA Wg) v)) (hFm : ∀ w v, F w → WgLive L.tWg Wg w → F (w.setCell (smA Wg) v))
    (hN : ∀ m g w, Goes P true (Rl L.tWg Wg S) DC0 Nx m g w → Next g w) (hT : ∀ w, F w ∧ WgLive L.tWg Wg w → Nx (G (b₀.at (a₀.put ((ops₀[i₀]?).bind (·.dst)) (.tuple #[])) (.inRegion ops₀ rest₀ :: k₀)) cs) w)
    (g : Goroutine) (w : World) (h : AnchF L F Wg (b₀.at a₀ (.inRegion ops₀ (i₀ :: rest₀) :: k₀)) cs g w) :
    ∃ m, Goes P true (Rl L.tWg Wg S) DC0 (W1 P L.tWg Wg S Next (AnchF L F Wg (b₀.at a₀ (.inRegion ops₀ (i₀ :: rest₀) :: k₀)) cs)) m g w := by
  have rl : ∀ {w w₁ : World}, (F w ∧ WgLive L.tWg Wg w) → Rl L.tWg Wg S w w₁ → F w₁ ∧ WgLive L.tWg Wg w₁ := fun h r => ⟨hF _ _ r h.1, r.live h.2⟩
  lib_facts
  obtain ⟨T, rfl, hT84, t0, hK⟩ := h
  obtain ⟨v0, v1, v2, v3, v4, v5, v6, v7, v8, v9, v10, v11, v12, v13, v14, v15, v16, v17, v18, v19, v20, v21, v22, v23, v24, v25, v26, v27, v28, v29, v30, v31, v32, v33, v34, v35, v36, v37, v38, v39, v40, v41, v42, v43, v44, v45, v46, v47, v48, v49, v50, v51, v52, v53, v54, v55, v56, v57, v58, v59, v60, v61, v62, v63, v64, v65, v66, v67, v68, v69, v70, v71, v72, v73, v74, v75, v76, v77, v78, v79, v80, v81, v82, v83, rfl⟩ := array84 T hT84
  simp only [List.getElem?_toArray, List.getElem?_cons_zero, Option.some.injEq] at t0
  subst t0
  refine ⟨30, ?_⟩
  simp only [L7, body_wait, waitFn, Option.getD_some]
  u_c stepG_block rl hK
  u_c stepG_seq rl hK
  u_reg rl hK
  u_op rl hK
  u_op rl hK
  u_op rl hK
  u_call H.f_uLoad (nm_uLoad L) uLoadFn rl hK
  u_c stepG_seq rl hK
  u_reg rl hK
  u_op rl hK
  u_c stepG_region_end rl hK
  u_c stepG_seq rl hK
  u_reg rl hK
  u_op rl hK
  u_op rl hK
  u_op rl hK
  refine Goes.stop (fun w₁ h₁ => ?_)
  replace hK := rl hK h₁
  clear h₁
  refine ⟨rfl, fun v hv hw => ?_⟩
  rcases Nat.eq_zero_or_pos v with rfl | hvp
  · replace hw : WgAt L.tWg Wg w₁ 0 0 := by simpa using hw
    refine ⟨_, stepG_load_atomic (v := 0) rfl rfl (by k_ne) rfl H.f_loadU64 (x_loadU64_n L) (x_loadU64_b L) (x_loadU64_x L) .u64 (x_loadU64_f L) rfl hw.cellSt, fun _ => ⟨50, ?_⟩, fun h => absurd rfl h⟩
    clear hw
    walk_nrm
    u_op rl hK
    u_c stepG_region_end rl hK
    u_c stepG_ret' rl hK
    u_leave1 H.f_uLoad rl hK
    u_op rl hK
    u_c stepG_region_end rl hK
    u_c stepG_seq rl hK
    u_reg rl hK
    u_op rl hK
    u_op rl hK
    u_op rl hK
    u_op rl hK
    u_c stepG_region_end rl hK
    u_c stepG_seq rl hK
    u_reg rl hK
    u_op rl hK
    u_op rl hK
    u_op rl hK
    u_op rl hK
    u_c stepG_region_end rl hK
    u_c stepG_seq rl hK
    u_c stepG_seq rl hK
    u_reg rl hK
    u_op rl hK
    u_op rl hK
    u_c stepG_region_end rl hK
    u_cond true rl hK
    u_c stepG_seq rl hK
    u_cond true rl hK
    u_c stepG_seq rl hK
    u_reg rl hK
    refine Goes.stop (fun w₅ h₅ => ?_)
    replace hK := rl hK h₅
    clear h₅
    refine ⟨rfl, _, stepG_mark0 .enable (by simp) rfl rfl (by k_ne) rfl H.f_enable (x_enable_n L) (x_enable_b L) (x_enable_x L) (x_enable_f L), 12, ?_⟩
    walk_nrm
    u_c stepG_region_end rl hK
    u_reg rl hK
    u_op rl hK
    u_conv H.underlying_tWgP H.room_tWg (live0 hK.2).choose_spec rl hK
    refine Goes.stop (fun w₆ h₆ => ?_)
    replace hK := rl hK h₆
    clear h₆
    refine ⟨rfl, _, stepG_markAt .acquire (by simp) rfl rfl (by k_ne) rfl H.f_acquire (x_acquire_n L) (x_acquire_b L) (x_acquire_x L) (x_acquire_f L) (by simp [Act.eval, stA]), hN 30 _ _ ?_⟩
    walk_nrm
    u_c stepG_region_end rl hK
    u_c stepG_seq rl hK
    u_c stepG_seq rl hK
    u_reg rl hK
    u_op rl hK
    u_op rl hK
    u_op rl hK
    u_op rl hK
    u_op rl hK
    u_op rl hK
    u_op rl hK
    u_op rl hK
    u_skip rl hK
    u_skip rl hK
    u_op rl hK
    u_c stepG_region_end rl hK
    u_cond false rl hK
    u_c stepG_skip rl hK
    u_c stepG_ret' rl hK
    u_leave0 H.f_wait rl hK
    exact Goes.stop fun w₇ h₇ => hT _ (rl hK h₇)
  · obtain ⟨T, hS⟩ : ∃ T : Int, (v : Int) * KK = T := ⟨_, rfl⟩
    have a1 : T / 4294967296 = (v : Int) := by rw [← hS]; simp only [KK]; omega
    have b1 : bits .and .u64 T 2147483648 = 0 := by rw [← hS]; have := st_flag v 0 (by omega) (by omega); simpa [KK] using this
    have b2 : bits .and .u64 T 2147483647 = 0 := by rw [← hS]; have := st_waiters v 0 (by omega) (by omega); simpa [KK] using this
    have c1 : IntKind.i32.wrap (v : Int) = (v : Int) := by rw [IntKind.wrap_i32]; omega
    have w1 : IntKind.u64.wrap (T + 1) = T + 1 := by rw [IntKind.wrap_u64, ← hS]; simp only [KK]; omega
    have q3 : decide ((v : Int) < 0) = false := decide_eq_false (by omega)
    have q4 : decide (0 < (v : Int)) = true := decide_eq_true (by omega)
    have q5 : ((v : Int) == 0) = false := by simp; omega
    have q6 : decide ((v : Int) = 0) = false := decide_eq_false (by omega)
    rw [hS] at hw
    refine ⟨_, stepG_load_atomic (v := T) rfl rfl (by k_ne) rfl H.f_loadU64 (x_loadU64_n L) (x_loadU64_b L) (x_loadU64_x L) .u64 (x_loadU64_f L) rfl hw.cellSt, fun h0 => absurd h0 (by omega), fun _ => ⟨60, ?_⟩⟩
    clear hw
    walk_nrm
    u_op rl hK
    u_c stepG_region_end rl hK
    u_c stepG_ret' rl hK
    u_leave1 H.f_uLoad rl hK
    u_op rl hK
    u_c stepG_region_end rl hK
    u_c stepG_seq rl hK
    u_reg rl hK
    u_op rl hK
    u_op rl hK
    u_op rl hK
    u_op rl hK
    u_c stepG_region_end rl hK
    u_c stepG_seq rl hK
    u_reg rl hK
    u_op rl hK
    u_op rl hK
    u_op rl hK
    u_op rl hK
    u_c stepG_region_end rl hK
    u_c stepG_seq rl hK
    u_c stepG_seq rl hK
    u_reg rl hK
    u_op rl hK
    u_op rl hK
    u_c stepG_region_end rl hK
    u_cnd false rl hK
    u_c stepG_skip rl hK
    u_c stepG_seq rl hK
    u_reg rl hK
    u_op rl hK
    u_op rl hK
    u_op rl hK
    u_op rl hK
    u_op rl hK
    u_op rl hK
    u_call H.f_uCas (nm_uCas L) uCasFn rl hK
    u_c stepG_seq rl hK
    u_reg rl hK
    u_op rl hK
    u_c stepG_region_end rl hK
    u_c stepG_seq rl hK
    u_reg rl hK
    u_op rl hK
    u_op rl hK
    u_op rl hK
    u_op rl hK
    u_op rl hK
    refine Goes.stop (fun w₂ h₂ => ?_)
    replace hK := rl hK h₂
    clear h₂
    refine ⟨rfl, fun v' hv' hw => ⟨fun e => ?_, fun e => ?_⟩⟩
    · subst e
      rw [hS] at hw ⊢
      refine ⟨_, (stepG_cas_hit (v := T) (n := T + 1) rfl rfl (by k_ne) rfl H.f_casU64 (x_casU64_n L) (x_casU64_b L) (x_casU64_x L) .u64 (x_casU64_f L) rfl rfl rfl hw.cellSt (hw.thaw 0)).trans (by rfl), 70, ?_⟩
      replace hK : F (w₂.setCell (stA Wg) (.int .u64 (T + 1))) ∧ WgLive L.tWg Wg (w₂.setCell (stA Wg) (.int .u64 (T + 1))) := ⟨hFs _ _ hK.1 hK.2, ⟨_, _, hw.setSt _⟩⟩
      clear hw
      walk_nrm
      u_op rl hK
      u_c stepG_region_end rl hK
      u_c stepG_ret' rl hK
      u_leave1 H.f_uCas rl hK
      u_c stepG_region_end rl hK
      u_cond true rl hK
      u_c stepG_seq rl hK
      u_c stepG_seq rl hK
      u_reg rl hK
      u_op rl hK
      u_op rl hK
      u_op rl hK
      u_op rl hK
      u_c stepG_region_end rl hK
      u_cond true rl hK
      u_reg rl hK
      u_op rl hK
      u_op rl hK
      u_op rl hK
      u_conv H.underlying_tPU32 H.room_tU32 (live1 hK.2).choose_spec rl hK
      refine Goes.stop (fun w₃ h₃ => ?_)
      replace hK := rl hK h₃
      clear h₃
      refine ⟨rfl, _, stepG_markAt .write (by simp) rfl rfl (by k_ne) rfl H.f_raceWrite (x_raceWrite_n L) (x_raceWrite_b L) (x_raceWrite_x L) (x_raceWrite_f L) (ad := ⟨_, 1, none⟩) (by simp [Act.eval] <;> rfl), 60, ?_⟩
      walk_nrm
      u_c stepG_region_end rl hK
      u_c stepG_seq rl hK
      u_reg rl hK
      u_op rl hK
      u_c stepG_region_end rl hK
      u_c stepG_seq rl hK
      u_c stepG_seq rl hK
      u_reg rl hK
      u_op rl hK
      u_op rl hK
      u_op rl hK
      u_op rl hK
      u_skip rl hK
      u_op rl hK
      u_c stepG_region_end rl hK
      u_cond false rl hK
      u_c stepG_skip rl hK
      u_c stepG_seq rl hK
      u_reg rl hK
      u_op rl hK
      u_op rl hK
      u_op rl hK
      u_op rl hK
      refine Goes.stop (fun w₃ h₃ => ?_)
      replace hK := rl hK h₃
      clear h₃
      refine ⟨rfl, rfl, fun ⟨st, hw⟩ => stepG_semacquire_wait rfl rfl rfl H.f_semacquire (x_semacquire_n L) (x_semacquire_b L) (x_semacquire_x L) (x_semacquire_f L) (by simp [Act.eval, smA]) hw.cellSm, fun hf => ?_⟩
      refine ⟨_, (stepG_semacquire (n := 1) rfl rfl (by k_ne) rfl H.f_semacquire (x_semacquire_n L) (x_semacquire_b L) (x_semacquire_x L) (x_semacquire_f L) (by simp [Act.eval, smA]) hf.cellSm (by k_ne) (hf.thaw 1)).trans (by rfl), 30, ?_⟩
      replace hK : F (w₃.setCell (smA Wg) (.int .u32 0)) ∧ WgLive L.tWg Wg (w₃.setCell (smA Wg) (.int .u32 0)) := ⟨hFm _ _ hK.1 hK.2, ⟨_, _, hf.setSm 0⟩⟩
      clear hf
      walk_nrm
      u_c stepG_region_end rl hK
      u_c stepG_seq rl hK
      u_reg rl hK
      u_op rl hK
      u_op rl hK
      u_op rl hK
      u_call H.f_uLoad (nm_uLoad L) uLoadFn rl hK
      u_c stepG_seq rl hK
      u_reg rl hK
      u_op rl hK
      u_c stepG_region_end rl hK
      u_c stepG_seq rl hK
      u_reg rl hK
      u_op rl hK
      u_op rl hK
      u_op rl hK
      refine Goes.stop (fun w₄ h₄ => ?_)
      replace hK := rl hK h₄
      clear h₄
      refine ⟨rfl, fun hw => ⟨_, stepG_load_atomic (v := 0) rfl rfl (by k_ne) rfl H.f_loadU64 (x_loadU64_n L) (x_loadU64_b L) (x_loadU64_x L) .u64 (x_loadU64_f L) rfl hw.cellSt, 30, ?_⟩⟩
      clear hw
      walk_nrm
      u_op rl hK
      u_c stepG_region_end rl hK
      u_c stepG_ret' rl hK
      u_leave1 H.f_uLoad rl hK
      u_op rl hK
      u_op rl hK
      u_c stepG_region_end rl hK
      u_c stepG_seq rl hK
      u_cond true rl hK
      u_c stepG_seq rl hK
      u_reg rl hK
      refine Goes.stop (fun w₅ h₅ => ?_)
      replace hK := rl hK h₅
      clear h₅
      refine ⟨rfl, _, stepG_mark0 .enable (by simp) rfl rfl (by k_ne) rfl H.f_enable (x_enable_n L) (x_enable_b L) (x_enable_x L) (x_enable_f L), 12, ?_⟩
      walk_nrm
      u_c stepG_region_end rl hK
      u_reg rl hK
      u_op rl hK
      u_conv H.underlying_tWgP H.room_tWg (live0 hK.2).choose_spec rl hK
      refine Goes.stop (fun w₆ h₆ => ?_)
      replace hK := rl hK h₆
      clear h₆
      refine ⟨rfl, _, stepG_markAt .acquire (by simp) rfl rfl (by k_ne) rfl H.f_acquire (x_acquire_n L) (x_acquire_b L) (x_acquire_x L) (x_acquire_f L) (by simp [Act.eval, stA]), hN 30 _ _ ?_⟩
      walk_nrm
      u_c stepG_region_end rl hK
      u_c stepG_seq rl hK
      u_c stepG_seq rl hK
      u_reg rl hK
      u_op rl hK
      u_c stepG_region_end rl hK
      u_cond false rl hK
      u_c stepG_skip rl hK
      u_c stepG_ret' rl hK
      u_leave0 H.f_wait rl hK
      exact Goes.stop fun w₇ h₇ => hT _ (rl hK h₇)
    · refine ⟨_, stepG_cas_miss (v := (v' : Int) * KK) (old := T) (n := T + 1) rfl rfl (by k_ne) rfl H.f_casU64 (x_casU64_n L) (x_casU64_b L) (x_casU64_x L) .u64 (x_casU64_f L) rfl rfl rfl hw.cellSt (hw.thaw 0) (by rw [← hS]; simp only [KK]; omega), 20, ?_⟩
      clear hw
      walk_nrm
      u_op rl hK
      u_c stepG_region_end rl hK
      u_c stepG_ret' rl hK
      u_leave1 H.f_uCas rl hK
      u_c stepG_region_end rl hK
      u_cond false rl hK
      u_c stepG_skip rl hK
      u_c stepG_inBlock rl hK
      u_c stepG_inLoop rl hK
      refine Goes.stop (fun w₃ h₃ => ?_)
      replace hK := rl hK h₃
      exact ⟨_, rfl, by simp, by simp, hK⟩

set_option maxRecDepth 100000 in
/-- From Wait's entry. -/
theorem waitStartF (H : WgLib P L) {S : Nat → Prop} {b₀ : Frame} {a₀ : Act} {ops₀ : Array Oper} {i₀ : Nat} {rest₀ : List Nat} {k₀ : List Item} {cs : List Frame} {F : World → Prop}
    (hF : ∀ w w', Rl L.tWg Wg S w w' → F w → F w') (w : World) (hK : F w ∧ WgLive L.tWg Wg w) :
    Goes P true (Rl L.tWg Wg S) DC0 (WKd P L.tWg Wg S (AnchF L F Wg (b₀.at a₀ (.inRegion ops₀ (i₀ :: rest₀) :: k₀)) cs)) 3
      (G ((base L.wait).at ⟨#[.pointer (some ⟨Wg, 0, none⟩), undef, undef, undef, undef, undef, undef, undef, undef, undef, undef, undef, undef, undef, undef, undef, undef, undef, undef, undef, undef, undef, undef, undef, undef, undef, undef, undef, undef, undef, undef, undef, undef, undef, undef, undef, undef, undef, undef, undef, undef, undef, undef, undef, undef, undef, undef, undef, undef, undef, undef, undef, undef, undef, undef, undef, undef, undef, undef, undef, undef, undef, undef, undef, undef, undef, undef, undef, undef, undef, undef, undef, undef, undef, undef, undef, undef, undef, undef, undef, undef, undef, undef, undef], []⟩ [.code (body_wait L)]) (b₀.at a₀ (.inRegion ops₀ (i₀ :: rest₀) :: k₀) :: cs)) w := by
  have rl : ∀ {w w₁ : World}, (F w ∧ WgLive L.tWg Wg w) → Rl L.tWg Wg S w w₁ → F w₁ ∧ WgLive L.tWg Wg w₁ := fun h r => ⟨hF _ _ r h.1, r.live h.2⟩
  lib_facts
  simp only [body_wait, waitFn, Option.getD_some]
  u_c stepG_seq rl hK
  u_cond true rl hK
  u_reg rl hK
  refine Goes.stop (fun w₁ h₁ => ?_)
  replace hK := rl hK h₁
  clear h₁
  refine ⟨rfl, _, stepG_mark0 .disable (by simp) rfl rfl (by k_ne) rfl H.f_disable (x_disable_n L) (x_disable_b L) (x_disable_x L) (x_disable_f L), 3, ?_⟩
  walk_nrm
  u_c stepG_region_end rl hK
  u_c stepG_block rl hK
  u_c stepG_loop rl hK
  exact Goes.stop (fun w₂ h₂ => ⟨_, rfl, by simp, by simp, rl hK h₂⟩)
end
end Go.Proofs.YtmmjlngbiilagaaGreatDoor
