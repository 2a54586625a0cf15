/-
  ALONE: own, the walk.
-/
import Derived.Test.YtmmjlngbiilagaaGreatDoorT15
import Derived.MapKept

namespace Go.Proofs.YtmmjlngbiilagaaGreatDoor
open Go Go.Conc Go.Shelf Go.RowKit Go.Lib

/-- One stream appended. -/
theorem list_app2 {ops : Array Oper} {rest : List Oper} {o : Oper} {a : Act} {w : World} {Q : Exit → Act → World → Prop} (hgd : o.guard = none) (s x : Operand)
    (ho : o.op = .call { callee := .builtin .append, args := #[s, x], argTypes := #[23, 23] }) (base : Nat) (v : Value) (n : Nat) (xs : List Value) (hs : a.eval s = v) (hown : w.ownsRow base 60 2 v n xs)
    (g c : Nat) (y0 y1 : Value) (hx : a.eval x = .slice (some ⟨g, 0, none⟩) 1 c) (hnew : w.heap[g]? = some (.cells #[y0, y1] 60 (0, 0))) (h0 : y0.oneCell' = true) (h1 : y1.oneCell' = true) (hn : n ≤ 100000) (hbase : base ≤ w.heap.size) (H : Nat) (hH : w.heap.size = H)
    (h : ∀ g' cap w', w'.ownsRow base 60 2 (.slice (some ⟨g', 0, none⟩) (n + 1) cap) (n + 1) (xs ++ [y0, y1]) → w.grownBy w' v.ownBlock → (v.ownBlock = some g' ∨ g' = H) → g' < w'.heap.size → wpList Vh ops Q rest (a.put o.dst (.slice (some ⟨g', 0, none⟩) (n + 1) cap)) w') : wpList Vh ops Q (o :: rest) a w := by
  obtain ⟨i0, hi0, hz0, hz1, hz2⟩ := info_parts infoS
  exact wpList_append_lies w hgd s x 23 ho base 60 i0 _ 2 40 undS hi0 hz0 hz1 hz2 rfl (by omega) v n xs hs hown ⟨g, 0, none⟩ 1 c [y0, y1] hx rfl (fun j u hu => World.news_of_block hnew j u (by simpa using hu))
    (fun u hu => by simp only [List.mem_cons, List.not_mem_nil, or_false] at hu; rcases hu with rfl | rfl <;> assumption) (by omega) (by simp only [maxLen]; omega) (by omega) hbase H hH h
theorem own_slice {w : World} {base : Nat} {e : TypeId} {size : Nat} {v : Value} {n : Nat} {xs : List Value} (h : w.ownsRow base e size v n xs) : v.oneCell' = true := by
  rcases h.2 with ⟨rfl, _⟩ | ⟨g, c, _, rfl, _⟩ <;> rfl
def OwnRes (L : List Strm) (w : World) (e : Ending) (w' : World) : Prop := ∃ v, e = .returned (.tuple #[v, .bool true]) ∧ OwnS w' w.heap.size v L ∧ Below w.heap.size w w'
def NotRes (w : World) (e : Ending) (w' : World) : Prop := e = .returned (.tuple #[.slice none 0 0, .bool false]) ∧ Below w.heap.size w w'
set_option maxRecDepth 100000 in
set_option maxHeartbeats 2000000 in
theorem own_calls (A : Option Addr) (cap : Nat) (L : List Strm) (w : World) (hS : SRow w w.heap.size A L) (hsz : ∀ x ∈ L, x.ms.length ≤ 4000000000000) (hf : Fits L) (n : Nat) (hn : L.length = n) : Calls Vh 4 #[.slice A n cap] w (OwnRes L w) := by
  have hF : Vh.funcs[4]? = some Tryz.f4 := Vh.fn Tryz.func4 (by kernel_rfl)
  have e1 := enterV Tryz.func15 (by kernel_rfl) (by kernel_rfl) rfl
  have HS := Lib.hid hS
  have HZ := Lib.hid hsz
  have HF := Lib.hid hf
  have HN := Lib.hid hn
  have hn40 : n ≤ 40 := by have := hf.1; omega
  clear hS hsz hf hn
  go_enter hF, Tryz.ntmps4
  go_wp2
  go_loopw [4, 5, 6] (fun v t i u => ∃ k : Nat, k ≤ n ∧ i = .int .i64 k ∧ t = .int .i64 (tot (L.take k) : Int) ∧ Below w.heap.size w u ∧ OwnS u w.heap.size v (L.take k)) (fun _ _ i _ => n - (intOf i).toNat)
  case atStart =>
    exact ⟨0, Nat.zero_le _, rfl, rfl, Below.refl _ _, [], rfl, ⟨rfl, .inl ⟨rfl, rfl⟩⟩, fun j u x hu => by cases hu⟩
  case round =>
    obtain ⟨k, hk, rfl, rfl, hb, ho⟩ := hrel
    by_cases hlt : k < n
    · obtain ⟨x, hx⟩ : ∃ x, L[k]? = some x := ⟨_, List.getElem?_eq_getElem (by have := HN.out; omega)⟩
      obtain ⟨b, o, rfl, hbB, m0, A', cap', m1, hm⟩ := (HS.out.below hb).at_ hx
      obtain ⟨us, o1, o2, o3⟩ := ho
      have hlen : (L.take k).length = k := by have := HN.out; rw [List.length_take]; omega
      rw [hlen] at o1 o2
      have ht1 := tot_succ hx
      have ht2 := tot_take_le L (k + 1)
      have ht3 := HF.out.2
      have hle : x.ms.length ≤ 300 := by omega
      have hst := fun (W : World) (h : MRow W W.heap.size A' x.ms) => stream_calls x.mem A' x.ms.length cap' x.ms W h rfl hle
      have HB := Lib.hid hb
      have HX := Lib.hid hx
      have HM := Lib.hid (hm.more hb.size)
      have HT := Lib.hid ht1
      have h300 : tot (L.take k) + x.ms.length ≤ 300 := by omega
      have O1 := Lib.hid o1
      have O2 := Lib.hid o2
      have O3 := Lib.hid o3
      clear hb hx hm ht1 ht2 ht3 o1 o2 o3 hlen
      generalize tot (L.take k) = t0 at *
      have hsz := HB.out.size
      go_wp2_with (first
        | (go_at_call 15; refine (hst _ HM.out).mono ?_; rintro e w' ⟨s, rfl, hs, hbw⟩
           have HSO := Lib.hid hs
           have HBW := Lib.hid hbw
           have hszw := hbw.size
           have hss : s.oneCell' = true := own_slice hs
           clear hs hbw)
        | (at_builtin
           refine list_app2 (by rfl) (.tmp 27) (.tmp 33) (by rfl) w.heap.size _ k _ (by rfl) ((own_below O2.out HBW.out (Nat.le_refl _)).alloc _) _ 1 (.string x.mem) s (by rfl) (heap_alloc_new _ _) rfl hss (by omega) (by simp; omega) _ (by rfl) ?_
           intro g cap2 w2 hown hg hat hlt2))
      go_roundw
      case rel =>
        refine ⟨k + 1, by omega, by go_num, by rw [HT.out]; go_num, ?_, ?_⟩
        · exact ((HB.out.trans (HBW.out.mono (by omega))).alloc (by omega) _).grown hg (by simp; omega) fun q e => by
            rcases O2.out.2 with ⟨rfl, _⟩ | ⟨g', _, _, rfl, hb', _⟩
            · cases e
            · simp only [Value.ownBlock, Option.some.injEq] at e; omega
        · exact OwnS.next O1.out (own_below O2.out HBW.out (Nat.le_refl _)) (fun j t y ht hy => own_below (O3.out j t y ht hy) HBW.out (Nat.le_refl _)) HX.out (own_base HSO.out (by omega)) hown hg
      case measure => simp [intOf]; omega
    · have hkn : k = n := by omega
      subst hkn
      have HB := Lib.hid hb
      have HO := Lib.hid ho
      clear hb ho
      go_wp2
      go_ret2
      refine ⟨_, rfl, ?_, HB.out⟩
      have := HO.out
      rwa [List.take_of_length_le (by rw [HN.out]; exact Nat.le_refl _)] at this
set_option maxRecDepth 100000 in
set_option maxHeartbeats 2000000 in
theorem own_not (A : Option Addr) (cap : Nat) (L : List Strm) (w : World) (hS : SRow w w.heap.size A L) (hsz : ∀ x ∈ L, x.ms.length ≤ 4000000000000) (hf : ¬ Fits L) (n : Nat) (hn : L.length = n) (hnm : n ≤ 4000000000000) : Calls Vh 4 #[.slice A n cap] w (NotRes w) := by
  have hF : Vh.funcs[4]? = some Tryz.f4 := Vh.fn Tryz.func4 (by kernel_rfl)
  have e1 := enterV Tryz.func15 (by kernel_rfl) (by kernel_rfl) rfl
  have HS := Lib.hid hS
  have HZ := Lib.hid hsz
  have HF := Lib.hid hf
  have HN := Lib.hid hn
  clear hS hsz hf hn
  go_enter hF, Tryz.ntmps4
  go_wp2
  go_loopw [4, 5, 6] (fun v t i u => ∃ k : Nat, k ≤ n ∧ k ≤ 40 ∧ tot (L.take k) ≤ 300 ∧ i = .int .i64 k ∧ t = .int .i64 (tot (L.take k) : Int) ∧ Below w.heap.size w u ∧ OwnS u w.heap.size v (L.take k)) (fun _ _ i _ => n - (intOf i).toNat)
  case atStart =>
    exact ⟨0, Nat.zero_le _, by omega, by simp [tot], rfl, rfl, Below.refl _ _, [], rfl, ⟨rfl, .inl ⟨rfl, rfl⟩⟩, fun j u x hu => by cases hu⟩
  case round =>
    obtain ⟨k, hk, hk40, h300, rfl, rfl, hb, ho⟩ := hrel
    by_cases hlt : k < n
    · obtain ⟨x, hx⟩ : ∃ x, L[k]? = some x := ⟨_, List.getElem?_eq_getElem (by have := HN.out; omega)⟩
      obtain ⟨b, o, rfl, hbB, m0, A', cap', m1, hm⟩ := (HS.out.below hb).at_ hx
      obtain ⟨us, o1, o2, o3⟩ := ho
      have hlen : (L.take k).length = k := by have := HN.out; rw [List.length_take]; omega
      rw [hlen] at o1 o2
      have ht1 := tot_succ hx
      have hxz := HZ.out x (List.mem_of_getElem? hx)
      have HB := Lib.hid hb
      have HX := Lib.hid hx
      have HT := Lib.hid ht1
      have hsz := hb.size
      by_cases hgo : k < 40 ∧ tot (L.take k) + x.ms.length ≤ 300
      · obtain ⟨g40, g300⟩ := hgo
        have hle : x.ms.length ≤ 300 := by omega
        have hst := fun (W : World) (h : MRow W W.heap.size A' x.ms) => stream_calls x.mem A' x.ms.length cap' x.ms W h rfl hle
        have HM := Lib.hid (hm.more hb.size)
        have O1 := Lib.hid o1
        have O2 := Lib.hid o2
        have O3 := Lib.hid o3
        clear hb hx hm ht1 o1 o2 o3 hlen
        generalize tot (L.take k) = t0 at *
        go_wp2_with (first
          | (go_at_call 15; refine (hst _ HM.out).mono ?_; rintro e w' ⟨s, rfl, hs, hbw⟩
             have HSO := Lib.hid hs
             have HBW := Lib.hid hbw
             have hszw := hbw.size
             have hss : s.oneCell' = true := own_slice hs
             clear hs hbw)
          | (at_builtin
             refine list_app2 (by rfl) (.tmp 27) (.tmp 33) (by rfl) w.heap.size _ k _ (by rfl) ((own_below O2.out HBW.out (Nat.le_refl _)).alloc _) _ 1 (.string x.mem) s (by rfl) (heap_alloc_new _ _) rfl hss (by omega) (by simp; omega) _ (by rfl) ?_
             intro g cap2 w2 hown hg hat hlt2))
        go_roundw
        case rel =>
          refine ⟨k + 1, by omega, by omega, by rw [HT.out]; omega, by go_num, by rw [HT.out]; go_num, ?_, ?_⟩
          · exact ((HB.out.trans (HBW.out.mono (by omega))).alloc (by omega) _).grown hg (by simp; omega) fun q e => by
              rcases O2.out.2 with ⟨rfl, _⟩ | ⟨g', _, _, rfl, hb', _⟩
              · cases e
              · simp only [Value.ownBlock, Option.some.injEq] at e; omega
          · exact OwnS.next O1.out (own_below O2.out HBW.out (Nat.le_refl _)) (fun j t y ht hy => own_below (O3.out j t y ht hy) HBW.out (Nat.le_refl _)) HX.out (own_base HSO.out (by omega)) hown hg
        case measure => simp [intOf]; omega
      · clear hb hx hm ht1 o1 o2 o3 hlen
        generalize tot (L.take k) = t0 at *
        by_cases g40 : k < 40
        · have g3 : 300 < t0 + x.ms.length := by omega
          go_wp2
          go_ret2
          exact ⟨rfl, HB.out⟩
        · go_wp2
          go_ret2
          exact ⟨rfl, HB.out⟩
    · exfalso
      have hkn : k = n := by omega
      have h1 := HN.out
      refine HF.out ⟨by omega, ?_⟩
      rwa [List.take_of_length_le (by omega)] at h300
end Go.Proofs.YtmmjlngbiilagaaGreatDoor

/-
  ALONE: same; the consumer's take.
-/
namespace Go.Proofs.YtmmjlngbiilagaaGreatDoor
open Go Go.Conc Go.Shelf Go.RowKit Go.Lib

theorem und49 : Vh.underlying 49 = some (.struct #[⟨ "Tick", 3, 0, false, "", "", 0⟩, ⟨ "Member", 9, 1, false, "", "", 8⟩, ⟨ "Seq", 3, 2, false, "", "", 24⟩, ⟨ "Payload", 9, 3, false, "", "", 32⟩]) := by
  rw [pr_und]
  kernel_rfl
theorem st49 : Vh.stoodInHeld 49 = false := by
  rw [show Vh.stoodInHeld 49 = Tryz.prog.stoodInHeld 49 from okH_st (Gd := ⟨fun _ => True, fun _ => False, default⟩) (B := 0) (fun _ _ => trivial) _ (by decide)]
  kernel_rfl
theorem undI : Vh.underlying 3 = some (.int .i64) := by rw [pr_und]; kernel_rfl
theorem undT : Vh.underlying 9 = some .string := by rw [pr_und]; kernel_rfl
theorem e_int (d : Nat) (a b : Int) (w : World) : (Op.equalIn (d + 1) 3 (.int .i64 a) (.int .i64 b)).run Vh w = .ok (a == b) w := by simp [Op.equalIn, run_underlying undI]
theorem e_str (d : Nat) (a b : ByteArray) (w : World) : (Op.equalIn (d + 1) 9 (.string a) (.string b)).run Vh w = .ok (a == b) w := by simp [Op.equalIn, run_underlying undT]
theorem p_int (cs : Array Value) (k : Nat) (v : Value) (h : cs[k]? = some v) (w : World) : (part 3 cs k).run Vh w = .ok v w := by simp [part, isAgg, run_underlying undI, h]
theorem p_str (cs : Array Value) (k : Nat) (v : Value) (h : cs[k]? = some v) (w : World) : (part 9 cs k).run Vh w = .ok v w := by simp [part, isAgg, run_underlying undT, h]
def m4cells (x : M4) : Array Value := #[.int .i64 x.t, .string x.m, .int .i64 x.s, .string x.p]
def m4eq (x y : M4) : Bool := x.t == y.t && x.m == y.m && x.s == y.s && x.p == y.p
set_option maxRecDepth 100000 in
theorem run_e49 (x y : M4) (d : Nat) (w : World) : (Op.equalIn (d + 2) 49 (.agg (m4cells x)) (.agg (m4cells y))).run Vh w = .ok (m4eq x y) w := by
  unfold Op.equalIn
  simp only [Sem.run_bind, run_underlying und49, Result.andThen_ok, run_program, st49]
  simp only [Bool.false_eq_true, if_false]
  have q0 : (m4cells x)[0]? = some (.int .i64 x.t) := rfl
  have q1 : (m4cells x)[1]? = some (.string x.m) := rfl
  have q2 : (m4cells x)[2]? = some (.int .i64 x.s) := rfl
  have q3 : (m4cells x)[3]? = some (.string x.p) := rfl
  have r0 : (m4cells y)[0]? = some (.int .i64 y.t) := rfl
  have r1 : (m4cells y)[1]? = some (.string y.m) := rfl
  have r2 : (m4cells y)[2]? = some (.int .i64 y.s) := rfl
  have r3 : (m4cells y)[3]? = some (.string y.p) := rfl
  rw [← Array.forIn_toList]
  simp only [List.forIn_cons, List.forIn_nil]
  have n0 : ("Tick" ≠ "_") = True := by simp
  have n1 : ("Member" ≠ "_") = True := by simp
  have n2 : ("Seq" ≠ "_") = True := by simp
  have n3 : ("Payload" ≠ "_") = True := by simp
  simp only [n0, n1, n2, n3, if_true, Sem.run_bind, p_int _ 0 _ q0, p_int _ 0 _ r0, p_int _ 2 _ q2, p_int _ 2 _ r2, p_str _ 1 _ q1, p_str _ 1 _ r1, p_str _ 3 _ q3, p_str _ 3 _ r3, Result.andThen_ok, e_int, e_str]
  unfold m4eq
  cases b0 : (x.t == y.t) <;> cases b1 : (x.m == y.m) <;> cases b2 : (x.s == y.s) <;> cases b3 : (x.p == y.p) <;>
    simp only [b0, b1, b2, b3, p_int _ 0 _ q0, p_int _ 0 _ r0, p_int _ 2 _ q2, p_int _ 2 _ r2, p_str _ 1 _ q1, p_str _ 1 _ r1, p_str _ 3 _ q3, p_str _ 3 _ r3, e_int, e_str, Bool.not_true, Bool.not_false, Bool.false_eq_true, if_true, if_false, Sem.run_bind, Sem.run_pure, Result.andThen_ok, Bool.and_true, Bool.and_false, Bool.true_and, Bool.false_and]
theorem m4eq_iff {x y : M4} : m4eq x y = true ↔ x = y := by
  obtain ⟨a, b, c, d⟩ := x
  obtain ⟨a', b', c', d'⟩ := y
  simp only [m4eq, Bool.and_eq_true, beq_iff_eq, Go.MapKept.bytes_beq, M4.mk.injEq]
  constructor
  · rintro ⟨⟨⟨h1, h2⟩, h3⟩, h4⟩; exact ⟨h1, h2, h3, h4⟩
  · rintro ⟨h1, h2, h3, h4⟩; exact ⟨⟨⟨h1, h2⟩, h3⟩, h4⟩
theorem run_g49 (op : BinOp) (a b : Operand) (x y : M4) (w : World) : (eqGuard op 49 a b (.agg (m4cells x)) (.agg (m4cells y))).run Vh w = .ok () w := by
  have hg : Vh.eqGuardType Vh.depth 49 = false := by
    rw [show Vh.depth = Tryz.prog.depth by unfold Program.depth; rw [pr_tables]]
    refine (eqGuardType_eq (lowH (Gd := ⟨fun _ => True, fun _ => False, default⟩) (B := 0) fun _ _ => trivial) _ _).trans ?_
    kernel_rfl
  unfold eqGuard
  cases op <;> simp [hg]
def Eqs (l k : List M4) (n : Nat) : Prop := ∀ j, j < n → l[j]? = k[j]?
set_option maxRecDepth 100000 in
set_option maxHeartbeats 2000000 in
theorem same_yes (A B : Option Addr) (c c' n : Nat) (l : List M4) (w : World) (hA : MRow w w.heap.size A l) (hB : MRow w w.heap.size B l) (hn : l.length = n) (hn3 : n ≤ 300) : Calls Vh 12 #[.slice A n c, .slice B n c'] w (BoolRes true w) := by
  have hF : Vh.funcs[12]? = some Tryz.f12 := Vh.fn Tryz.func12 (by kernel_rfl)
  have HA := Lib.hid hA
  have HB := Lib.hid hB
  have HN := Lib.hid hn
  clear hA hB hn
  go_enter hF, Tryz.ntmps12
  go_wp2
  go_loopw [5] (fun i u => ∃ k m : Nat, k ≤ n ∧ i = .int .i64 k ∧ u = w.drewN m) (fun i _ => n - (intOf i).toNat)
  case atStart => exact ⟨0, 0, Nat.zero_le _, rfl, rfl⟩
  case round =>
    obtain ⟨k, m, hk, rfl, rfl⟩ := hrel
    by_cases hlt : k < n
    · obtain ⟨x, hx⟩ : ∃ x, l[k]? = some x := ⟨_, List.getElem?_eq_getElem (by have := HN.out; omega)⟩
      obtain ⟨b, o, rfl, hbB, m0, m1, m2, m3⟩ := HA.out.at_ hx
      obtain ⟨b', o', rfl, hbB', m0', m1', m2', m3'⟩ := HB.out.at_ hx
      clear hx
      go_wp2_with fail
      refine wp_region_quiet_lit (by kernel_rfl) (by kernel_rfl) ?_
      repeat go_big_quiet_step (fail)
      refine wpQuiet_step (fun K hK => ?_)
      go_simp
      have hg := fun u => run_g49 .neq (.tmp 20) (.tmp 24) x x u
      have he := fun u => run_e49 x x 9998 u
      unfold m4cells at hg he
      simp only [hg, he, Result.andThen_ok]
      have h1 : m4eq x x = true := m4eq_iff.2 rfl
      refine ⟨.bool (!m4eq x x), fun _ => ⟨trivial, rfl⟩, hK _ ?_⟩
      clear hK K hg he
      rw [h1]
      refine wpQuiet_nil ?_
      intro _ hw'
      obtain ⟨nq, hw''⟩ := hw'
      subst hw''
      clear h1
      go_wp2_with fail
      go_roundw
      case rel => exact ⟨k + 1, _, by omega, by go_num, rfl⟩
      case measure => simp [intOf]; omega
    · go_wp2
      go_ret
      exact ⟨rfl, _, rfl⟩
theorem blk_own {w : World} {base : Nat} {e t : TypeId} {size : Nat} {v : Value} {n : Nat} {xs : List Value} {g : Nat} {cs : Array Value} (h : w.ownsRow base e size v n xs) (hb : Blk w g t cs) (hne : e ≠ t) : v.ownBlock ≠ some g := by
  rcases h.2 with ⟨rfl, _⟩ | ⟨g', _, _, rfl, _, hh, _⟩
  · simp [Value.ownBlock]
  · simp only [Value.ownBlock, ne_eq, Option.some.injEq]
    rintro rfl
    unfold Blk at hb
    rw [hh] at hb
    cases hb
    exact hne rfl
/-- The consumer: its list, its bound. -/
structure Cons (w : World) (g base : Nat) (v : Value) (l : List M4) (most : Int) : Prop where
  blk : Blk w g 30 #[v, .int .i64 most]
  own : w.ownsRow base 50 4 v l.length (cellsL l)
def TakeRes (w : World) (g base : Nat) (l : List M4) (most : Int) (e : Ending) (w' : World) : Prop := e = .returned .nilIface ∧ ∃ v', Cons w' g base v' l most ∧ w.heap.size ≤ w'.heap.size ∧ w'.os = w.os ∧ w'.tape = w.tape ∧ w'.output = w.output ∧ ∀ b, b < w.heap.size → b < base → b ≠ g → w'.heap[b]? = w.heap[b]?
set_option maxRecDepth 100000 in
set_option maxHeartbeats 2000000 in
theorem take_full (g base : Nat) (v : Value) (l : List M4) (x : M4) (w : World) (h : Cons w g base v l l.length) (hl : l.length ≤ 300) : Calls Vh 7 #[.pointer (some ⟨g, 0, none⟩), .agg #[.int .i64 x.t, .string x.m, .int .i64 x.s, .string x.p]] w
    fun e w' => e = .returned (.iface 55 (.agg #[])) ∧ Below w.heap.size w w' := by
  have hF : Vh.funcs[7]? = some Tryz.f7 := Vh.fn Tryz.func7 (by kernel_rfl)
  have c0 := h.blk.cell 0
  have c1 := h.blk.cell 1
  simp only [List.getElem?_toArray, List.getElem?_cons_zero, List.getElem?_cons_succ] at c0 c1
  have hg : g < w.heap.size := heap_lt h.blk
  obtain ⟨A, c, rfl⟩ : ∃ A c, v = .slice A l.length c := by
    rcases h.own.2 with ⟨rfl, h0⟩ | ⟨_, c, _, rfl, _⟩
    · exact ⟨none, 0, by rw [h0]⟩
    · exact ⟨_, c, rfl⟩
  clear h
  generalize l.length = n at *
  go_enter hF, Tryz.ntmps7
  go_wp2_with fail
  go_quiet (fail)
  go_wp2_with fail
  go_ret
  exact ⟨rfl, below_drewN ((Below.refl _ _).alloc (Nat.le_refl _) _) _⟩
end Go.Proofs.YtmmjlngbiilagaaGreatDoor

/-
  ALONE: the consumer takes a message.
-/
namespace Go.Proofs.YtmmjlngbiilagaaGreatDoor
open Go Go.Conc Go.Shelf Go.RowKit Go.Lib

theorem _root_.Go.ownsRow_alloc_drewN {w : World} {base : Nat} {e : TypeId} {size : Nat} {v : Value} {n : Nat} {xs : List Value} (h : w.ownsRow base e size v n xs) (o o' : Obj) (q : Nat) : (((w.alloc o).drewN q).alloc o').ownsRow base e size v n xs :=
  World.ownsRow.alloc (w := (w.alloc o).drewN q) (h.alloc o) o'
theorem cellsL_snoc (l : List M4) (x : M4) : cellsL (l ++ [x]) = cellsL l ++ x.cells := by simp [cellsL]
theorem take_fin {w W w' : World} {g base : Nat} {v : Value} {l : List M4} {x : M4} {most : Int} {g' cap' : Nat} (h : Cons w g base v l most) (hW : W.heap = (w.alloc (.cells #[.int .i64 x.t, .string x.m, .int .i64 x.s, .string x.p] 50)).heap) (hos : W.os = w.os ∧ W.tape = w.tape ∧ W.output = w.output)
    (hbase : base ≤ w.heap.size)
    (hown : w'.ownsRow base 50 4 (.slice (some ⟨g', 0, none⟩) (l.length + 1) cap') (l.length + 1) (cellsL l ++ x.cells)) (hg : (W.alloc (.cells #[.int .i64 x.t, .string x.m, .int .i64 x.s, .string x.p] 50)).grownBy w' v.ownBlock) :
    TakeRes w g base (l ++ [x]) most (.returned .nilIface) (w'.setCell ⟨g, 0, none⟩ (.slice (some ⟨g', 0, none⟩) (l.length + 1) cap')) := by
  have hgl : g < w.heap.size := heap_lt h.blk
  have hWs : W.heap.size = w.heap.size + 1 := by rw [hW]; simp
  have hne := blk_own h.own h.blk (by decide)
  have keep : ∀ b, b < w.heap.size → v.ownBlock ≠ some b → w'.heap[b]? = w.heap[b]? := fun b hb hn => by
    rw [hg.block b (by simp; omega) (fun e => hn e.symm), Below.heap_alloc W _ b (by show b < W.heap.size; omega)]
    show W.heap[b]? = _
    rw [hW]
    exact Below.heap_alloc w _ b hb
  have hk : w'.heap[g]? = some (.cells #[v, .int .i64 most] 30 (0, 0)) := (keep g hgl hne).trans h.blk
  refine ⟨rfl, .slice (some ⟨g', 0, none⟩) (l.length + 1) cap', ⟨?_, ?_⟩, ?_, ?_, ?_, ?_, fun b hb hbb hbg => ?_⟩
  · unfold Blk
    simp [World.setCell, Array.getElem?_modify, hk]
  · rw [cellsL_snoc, List.length_append]
    exact own_keep hown fun q hq => Below.heap_setCell w' _ _ q fun e => blk_own hown (show Blk w' g _ _ from hk) (by decide) (by rw [hq]; exact congrArg some e)
  · have := hg.size
    simp at this ⊢
    omega
  · exact (hg.os.trans hos.1)
  · exact (hg.tape.trans hos.2.1)
  · exact (hg.output.trans hos.2.2)
  · rw [Below.heap_setCell w' _ _ b hbg]
    refine keep b hb fun e => ?_
    rcases h.own.2 with ⟨rfl, _⟩ | ⟨q, _, _, rfl, hq, _⟩
    · cases e
    · simp only [Value.ownBlock, Option.some.injEq] at e; omega
set_option maxRecDepth 100000 in
set_option maxHeartbeats 2000000 in
theorem take_room (g base : Nat) (v : Value) (l : List M4) (x : M4) (most : Int) (w : World) (h : Cons w g base v l most) (hl : l.length ≤ 300) (hm : (l.length : Int) < most) (hbase : base ≤ w.heap.size) : Calls Vh 7 #[.pointer (some ⟨g, 0, none⟩), .agg #[.int .i64 x.t, .string x.m, .int .i64 x.s, .string x.p]] w
    (TakeRes w g base (l ++ [x]) most) := by
  have hF : Vh.funcs[7]? = some Tryz.f7 := Vh.fn Tryz.func7 (by kernel_rfl)
  have c0 := h.blk.cell 0
  have c1 := h.blk.cell 1
  have f0 := h.blk.frz 0
  simp only [List.getElem?_toArray, List.getElem?_cons_zero, List.getElem?_cons_succ] at c0 c1
  have hg : g < w.heap.size := heap_lt h.blk
  have hv1 := own_slice h.own
  have hne := blk_own h.own h.blk (by decide)
  obtain ⟨A, c, rfl⟩ : ∃ A c, v = .slice A l.length c := by
    rcases h.own.2 with ⟨rfl, h0⟩ | ⟨_, c, _, rfl, _⟩
    · exact ⟨none, 0, by rw [h0]⟩
    · exact ⟨_, c, rfl⟩
  have H := Lib.hid h
  have HO := Lib.hid h.own
  clear h
  have hmm : ((l.length : Int) == most) = false := by simp; omega
  generalize hn : l.length = n at *
  have HN := Lib.hid hn
  clear hn
  go_enter hF, Tryz.ntmps7
  go_wp2_with fail
  go_quiet (fail)
  go_wp2_with fail
  have HA1 : ∀ o : Obj, ((((w.alloc (.cells #[.int .i64 x.t, .string x.m, .int .i64 x.s, .string x.p] 50)).drewN nq).drew).alloc o).heap[w.heap.size + 1]? = some o := fun o => by
    have := heap_alloc_new (((w.alloc (.cells #[.int .i64 x.t, .string x.m, .int .i64 x.s, .string x.p] 50)).drewN nq).drew) o
    rwa [show (((w.alloc (.cells #[.int .i64 x.t, .string x.m, .int .i64 x.s, .string x.p] 50)).drewN nq).drew).heap.size = w.heap.size + 1 from by simp] at this
  have hW := Lib.hid (show ((w.alloc (.cells #[.int .i64 x.t, .string x.m, .int .i64 x.s, .string x.p] 50)).drewN nq).heap.size = w.heap.size + 1 from by simp)
  go_region_law (first
    | (refine step_app4 (by rfl) (.tmp 21) (.tmp 23) (by rfl) base _ n (cellsL l) (by rfl) (Go.ownsRow_alloc_drewN HO.out _ _ _) (w.heap.size + 1) 1 x (by rfl) (HA1 _) (by omega) (by simp; omega) _ (by rfl) ?_
       intro g2 cap' w' hown hgr hat hlt'
       have c0' : w'.cell? ⟨g, 0, none⟩ = some (.slice A n c) := (hgr.cell_far ⟨g, 0, none⟩ (by simp; omega) (fun e => hne e.symm)).trans ((World.cell?_alloc_lt _ _ ⟨g, 0, none⟩ (by simp; omega)).trans ((World.cell?_alloc_lt w _ ⟨g, 0, none⟩ hg).trans c0))
       have f0' : w'.frozen? ⟨g, 0, none⟩ = false := (hgr.frozen_far ⟨g, 0, none⟩ (by simp; omega) (fun e => hne e.symm)).trans ((World.frozen?_alloc_past _ _ _ (by simp; omega)).trans ((World.frozen?_alloc_past _ _ _ hg).trans f0))))
  all_goals
    go_wp2_with fail
    go_ret
    have hn' := HN.out
    subst hn'
    exact take_fin (W := (w.alloc (.cells #[.int .i64 x.t, .string x.m, .int .i64 x.s, .string x.p] 50)).drewN (nq + 1)) H.out (by rfl) ⟨rfl, rfl, rfl⟩ hbase hown hgr
end Go.Proofs.YtmmjlngbiilagaaGreatDoor

/-
  ALONE: the reference's check of a stream.
-/
namespace Go.Proofs.YtmmjlngbiilagaaGreatDoor
open Go Go.Conc Go.Shelf Go.RowKit Go.Lib

/-- The first that is not zero. -/
def firstE (f : Nat → Int) : Nat → Nat → Int
  | 0, _ => 0
  | n + 1, k => if f k ≠ 0 then f k else firstE f n (k + 1)
theorem firstE_at {f : Nat → Int} {n k : Nat} (hk : k < n) (hz : ∀ j, j < k → f j = 0) (h : f k ≠ 0) : firstE f n 0 = f k := by
  have key : ∀ n a, a ≤ k → k < a + n → (∀ j, a ≤ j → j < k → f j = 0) → firstE f n a = f k := by
    intro n
    induction n with
    | zero => intro a h1 h2; omega
    | succ n ih =>
      intro a h1 h2 h3
      unfold firstE
      by_cases e : a = k
      · subst e; rw [if_pos h]
      · rw [if_neg (by simp [h3 a (Nat.le_refl _) (by omega)]), ih (a + 1) (by omega) (by omega) fun j hj => h3 j (by omega)]
  exact key n 0 (Nat.zero_le _) (by omega) fun j _ hj => hz j hj
theorem firstE_none {f : Nat → Int} {n : Nat} (hz : ∀ j, j < n → f j = 0) : firstE f n 0 = 0 := by
  have key : ∀ n a, (∀ j, a ≤ j → j < a + n → f j = 0) → firstE f n a = 0 := by
    intro n
    induction n with
    | zero => intro a h; rfl
    | succ n ih =>
      intro a h
      unfold firstE
      rw [if_neg (by simp [h a (Nat.le_refl _) (by omega)]), ih (a + 1) fun j h1 h2 => h j (by omega) (by omega)]
  exact key n 0 fun j _ h => hz j (by omega)
/-- What is wrong with a message. -/
def msgE (mem : ByteArray) (last : Int) (k : Nat) (x : M4) : Int :=
  if x.m ≠ mem then 17 else if x.t < 0 ∨ 1000000000 < x.t then 2 else if x.t < last then 20 else if x.s ≠ k + 1 then 23 else if 4096 < x.p.size then 5 else 0
def lastT (ms : List M4) : Nat → Int
  | 0 => 0
  | k + 1 => match ms[k]? with
    | some x => x.t
    | none => 0
def roundE (mem : ByteArray) (ms : List M4) (k : Nat) : Int := match ms[k]? with
  | some x => msgE mem (lastT ms k) k x
  | none => 0
section
variable {mem p : ByteArray} {t s last : Int} {k : Nat} (h2 : 0 ≤ t) (h3 : t ≤ 1000000000)
include h2 h3
theorem msgE20 (h : t < last) : msgE mem last k ⟨t, mem, s, p⟩ = 20 := by
  simp [msgE, h]; omega
theorem msgE23 (h : last ≤ t) (h5 : s ≠ k + 1) : msgE mem last k ⟨t, mem, s, p⟩ = 23 := by
  have h1 : ¬ (t < 0 ∨ 1000000000 < t) := by omega
  have h4 : ¬ t < last := by omega
  simp [msgE, h1, h4, h5]
theorem msgE5 (h : last ≤ t) (h5 : s = k + 1) (h6 : 4096 < p.size) : msgE mem last k ⟨t, mem, s, p⟩ = 5 := by
  have h1 : ¬ (t < 0 ∨ 1000000000 < t) := by omega
  have h4 : ¬ t < last := by omega
  simp [msgE, h1, h4, h5, h6]
theorem msgE0 (h : last ≤ t) (h5 : s = k + 1) (h6 : p.size ≤ 4096) : msgE mem last k ⟨t, mem, s, p⟩ = 0 := by
  have h1 : ¬ (t < 0 ∨ 1000000000 < t) := by omega
  have h4 : ¬ t < last := by omega
  have h7 : ¬ 4096 < p.size := by omega
  simp [msgE, h1, h4, h5, h7]
end
noncomputable def chkE (x : Strm) : Int := if memB x.mem = true then firstE (roundE x.mem x.ms) x.ms.length 0 else 6
def IntRes (e : Int) (w : World) (E : Ending) (w' : World) : Prop := E = .returned (.int .i64 e) ∧ Below w.heap.size w w'
set_option maxRecDepth 100000 in
set_option maxHeartbeats 4000000 in
theorem check50_calls (mem : ByteArray) (A : Option Addr) (n cap : Nat) (ms : List M4) (w : World) (hm : MRow w w.heap.size A ms) (hn : ms.length = n) (hn3 : n ≤ 300) (hs : mem.size ≤ maxLen) :
    Calls Vh 17 #[.agg #[.string mem, .slice A n cap]] w (IntRes (chkE ⟨mem, ms⟩) w) := by
  have hF : Vh.funcs[17]? = some Tryz.f17 := Vh.fn Tryz.func17 (by kernel_rfl)
  have e1 := enterV Tryz.func34 (by kernel_rfl) (by kernel_rfl) rfl
  have hc := fun W => member_calls mem W hs
  have HM := Lib.hid hm
  have HN := Lib.hid hn
  have HS := Lib.hid hs
  clear hm hn hs
  go_enter hF, Tryz.ntmps17
  cases hB : memB mem
  · have HE := Lib.hid (show chkE ⟨mem, ms⟩ = 6 from by simp [chkE, hB])
    rw [hB] at hc
    clear hB
    go_wp2_with (go_at_call 34; refine (hc _).mono ?_; rintro e w' ⟨rfl, n, rfl⟩)
    go_ret
    rw [HE.out]
    exact ⟨rfl, below_drewN ((Below.refl _ _).alloc (Nat.le_refl _) _) _⟩
  · have HE := Lib.hid (show chkE ⟨mem, ms⟩ = firstE (roundE mem ms) ms.length 0 from by simp [chkE, hB])
    rw [hB] at hc
    clear hB
    go_wp2_with (go_at_call 34; refine (hc _).mono ?_; rintro e w' ⟨rfl, nq, rfl⟩)
    go_loopw [3] (fun i u => ∃ k : Nat, k ≤ n ∧ i = .int .i64 k ∧ Below (w.heap.size + 1) (w.alloc (.cells #[.string mem, .slice A n cap] 58)) u ∧ ∀ j, j < k → roundE mem ms j = 0) (fun i _ => n - (intOf i).toNat)
    case atStart => exact ⟨0, Nat.zero_le _, rfl, below_drewN (Below.refl _ _) _, fun j h => absurd h (Nat.not_lt_zero j)⟩
    case round =>
      obtain ⟨k, hk, rfl, hb, hz⟩ := hrel
      have hS0 : wr.heap[w.heap.size]? = some (.cells #[.string mem, .slice A n cap] 58 (0, 0)) := (hb.block _ (by omega)).trans (heap_alloc_new w _)
      have c0 := cell_of_row wr w.heap.size 0 _ _ _ hS0
      have c1 := cell_of_row wr w.heap.size 1 _ _ _ hS0
      simp only [List.getElem?_toArray, List.getElem?_cons_zero, List.getElem?_cons_succ] at c0 c1
      have hbw : Below w.heap.size w wr := ((Below.refl _ _).alloc (Nat.le_refl _) _).trans (hb.mono (by omega))
      have hlt0 : w.heap.size < wr.heap.size := heap_lt hS0
      clear hS0
      by_cases hlt : k < n
      · obtain ⟨x, hx⟩ : ∃ x, ms[k]? = some x := ⟨_, List.getElem?_eq_getElem (by have := HN.out; omega)⟩
        obtain ⟨b, o, rfl, hbB, m0, m1, m2, m3⟩ := (HM.out.below hbw).at_ hx
        have HR := Lib.hid (show roundE mem ms k = msgE mem (lastT ms k) k x from by simp [roundE, hx])
        have HB := Lib.hid hb
        have HW := Lib.hid hbw
        have HZ := Lib.hid hz
        have HL := Lib.hid hlt
        clear hb hbw hz
        have bad : ∀ e, roundE mem ms k = e → e ≠ 0 → chkE ⟨mem, ms⟩ = e := fun e h1 h2 => by
          rw [HE.out, HN.out]
          subst h1
          exact firstE_at HL.out HZ.out h2
        have HD := Lib.hid bad
        clear bad
        by_cases g1 : x.m = mem
        · obtain ⟨xt, xm, xs, xp⟩ := x
          dsimp only at g1 m0 m1 m2 m3
          subst g1
          have HX := Lib.hid hx
          clear hx
          by_cases g2 : xt < 0
          · have HG := Lib.hid (HD.out 2 (by rw [HR.out]; simp [msgE, g2]) (by decide))
            go_wp2_with fail
            go_ret
            rw [HG.out]
            exact ⟨rfl, (HW.out.alloc (Nat.le_of_lt hlt0) _)⟩
          · by_cases g3 : 1000000000 < xt
            · have HG := Lib.hid (HD.out 2 (by rw [HR.out]; simp [msgE, g2, g3]) (by decide))
              go_wp2_with fail
              go_ret
              rw [HG.out]
              exact ⟨rfl, (HW.out.alloc (Nat.le_of_lt hlt0) _)⟩
            · have fin : ∀ (u : World), Below w.heap.size w u → True := fun _ _ => trivial
              by_cases hk0 : k = 0
              · have hk1 : ¬ (0 : Int) < (k : Int) := by omega
                subst hk0
                simp only [Nat.zero_mul, Nat.add_zero] at m0 m1 m2 m3
                go_wp2_with fail
                go_quiet (fail)
                go_wp2_with fail
                all_goals first
                  | (go_ret
                     have HG := HD.out 23 (by rw [HR.out]; exact msgE23 g2 g3 (show lastT ms 0 ≤ xt from g2) (by have h := ‹(xs != _) = true›; simp only [bne_iff_ne, ne_eq] at h; omega)) (by decide)
                     exact ⟨by rw [HG]; rfl, below_drewN (HW.out.alloc (Nat.le_of_lt hlt0) _) _⟩)
                  | (go_ret
                     have HG := HD.out 5 (by rw [HR.out]; exact msgE5 g2 g3 (show lastT ms 0 ≤ xt from g2) (by have h := ‹(xs != _) = false›; simp only [bne_eq_false_iff_eq] at h; omega) (by have h := ‹(4096 : Int) < (xp.size : Int)›; omega)) (by decide)
                     exact ⟨by rw [HG]; rfl, below_drewN (HW.out.alloc (Nat.le_of_lt hlt0) _) _⟩)
                  | (have H0 : roundE xm ms 0 = 0 := by rw [HR.out]; exact msgE0 g2 g3 (show lastT ms 0 ≤ xt from g2) (by have h := ‹(xs != _) = false›; simp only [bne_eq_false_iff_eq] at h; omega) (by have h := ‹(xp.size : Int) ≤ 4096›; omega)
                     refine ⟨⟨0 + 1, by omega, by go_num, below_drewN (HB.out.alloc (by omega) _) _, fun j hj => ?_⟩, by simp [intOf]; omega⟩
                     rcases Nat.lt_or_ge j 0 with h | h
                     · exact HZ.out j h
                     · obtain rfl : j = 0 := by omega
                       exact H0)
              · obtain ⟨p, rfl⟩ : ∃ p, k = p + 1 := ⟨k - 1, by omega⟩
                obtain ⟨y, hy⟩ : ∃ y, ms[p]? = some y := ⟨_, List.getElem?_eq_getElem (by have := HN.out; omega)⟩
                obtain ⟨b', o', eA, _, q0, _⟩ := (HM.out.below HW.out).at_ hy
                cases eA
                have hlast : lastT ms (p + 1) = y.t := by simp [lastT, hy]
                have hk1 : (0 : Int) < ((p + 1 : Nat) : Int) := by omega
                have hk2 : (0 : Int) < (p : Int) + 1 := by omega
                have hwp : IntKind.i64.wrap (p : Int) = (p : Int) := by rw [IntKind.wrap_i64]; omega
                clear hy
                have q0' : ∀ ob : Obj, (wr.alloc ob).cell? ⟨b, o + p * 4, none⟩ = some (.int .i64 y.t) := fun ob => (World.cell?_alloc_lt wr ob ⟨b, o + p * 4, none⟩ (by show b < wr.heap.size; omega)).trans q0
                go_wp2_with fail
                go_quiet (fail)
                go_wp2_with fail
                all_goals first
                  | (go_ret
                     have HG := HD.out 23 (by rw [HR.out]; exact msgE23 g2 g3 (by rw [hlast]; assumption) (by have h := ‹(xs != _) = true›; simp only [bne_iff_ne, ne_eq] at h; omega)) (by decide)
                     exact ⟨by rw [HG]; rfl, below_drewN (HW.out.alloc (Nat.le_of_lt hlt0) _) _⟩)
                  | (go_ret
                     have HG := HD.out 5 (by rw [HR.out]; exact msgE5 g2 g3 (by rw [hlast]; assumption) (by have h := ‹(xs != _) = false›; simp only [bne_eq_false_iff_eq] at h; omega) (by have h := ‹(4096 : Int) < (xp.size : Int)›; omega)) (by decide)
                     exact ⟨by rw [HG]; rfl, below_drewN (HW.out.alloc (Nat.le_of_lt hlt0) _) _⟩)
                  | (go_ret
                     have HG := HD.out 20 (by rw [HR.out, hlast]; exact msgE20 g2 g3 (by assumption)) (by decide)
                     exact ⟨by rw [HG]; rfl, below_drewN (HW.out.alloc (Nat.le_of_lt hlt0) _) _⟩)
                  | (have H0 : roundE xm ms (p + 1) = 0 := by rw [HR.out]; exact msgE0 g2 g3 (by rw [hlast]; assumption) (by have h := ‹(xs != _) = false›; simp only [bne_eq_false_iff_eq] at h; omega) (by have h := ‹(xp.size : Int) ≤ 4096›; omega)
                     refine ⟨⟨(p + 1) + 1, by omega, by go_num, below_drewN (HB.out.alloc (by omega) _) _, fun j hj => ?_⟩, by simp [intOf]; omega⟩
                     rcases Nat.lt_or_ge j (p + 1) with h | h
                     · exact HZ.out j h
                     · obtain rfl : j = p + 1 := by omega
                       exact H0)
        · have HG := Lib.hid (HD.out 17 (by rw [HR.out]; simp [msgE, g1]) (by decide))
          have g1' := ba_ne g1
          clear hx g1
          go_wp2_with fail
          go_ret
          rw [HG.out]
          exact ⟨rfl, (HW.out.alloc (Nat.le_of_lt hlt0) _)⟩
      · have hkn : k = n := by omega
        subst hkn
        have HG := Lib.hid (show chkE ⟨mem, ms⟩ = 0 from by rw [HE.out, HN.out]; exact firstE_none hz)
        have HW := Lib.hid hbw
        clear hz hb hbw
        go_wp2
        go_ret
        rw [HG.out]
        exact ⟨rfl, HW.out⟩
end Go.Proofs.YtmmjlngbiilagaaGreatDoor

/-
  ALONE: the reference's check of streams.
-/
namespace Go.Proofs.YtmmjlngbiilagaaGreatDoor
open Go Go.Conc Go.Shelf Go.RowKit Go.Lib

/-- An earlier stream has this member. -/
def Dup (L : List Strm) (k : Nat) (m : ByteArray) : Prop := ∃ (j : Nat) (y : Strm), j < k ∧ L[j]? = some y ∧ y.mem = m
open Classical in
noncomputable def roundA (L : List Strm) (k : Nat) : Int := match L[k]? with
  | some x => if chkE x ≠ 0 then chkE x else if Dup L k x.mem then 7 else 0
  | none => 0
noncomputable def allE (L : List Strm) : Int := firstE (roundA L) L.length 0
theorem roundA_chk {L : List Strm} {k : Nat} {x : Strm} (hx : L[k]? = some x) (h : chkE x ≠ 0) : roundA L k = chkE x := by simp [roundA, hx, h]
theorem roundA_dup {L : List Strm} {k : Nat} {x : Strm} (hx : L[k]? = some x) (h : chkE x = 0) (hd : Dup L k x.mem) : roundA L k = 7 := by simp [roundA, hx, h, hd]
theorem roundA_ok {L : List Strm} {k : Nat} {x : Strm} (hx : L[k]? = some x) (h : chkE x = 0) (hd : ¬ Dup L k x.mem) : roundA L k = 0 := by simp [roundA, hx, h, hd]
set_option maxRecDepth 100000 in
set_option maxHeartbeats 4000000 in
theorem checkAll50_calls (A : Option Addr) (n cap : Nat) (L : List Strm) (w : World) (hS : SRow w w.heap.size A L) (hn : L.length = n) (hf : Fits L) (hsz : ∀ x ∈ L, x.mem.size ≤ maxLen) :
    Calls Vh 8 #[.slice A n cap] w (IntRes (allE L) w) := by
  have hF : Vh.funcs[8]? = some Tryz.f8 := Vh.fn Tryz.func8 (by kernel_rfl)
  have e1 := enterV Tryz.func17 (by kernel_rfl) (by kernel_rfl) rfl
  have hn40 : n ≤ 40 := by have := hf.1; omega
  have HS := Lib.hid hS
  have HN := Lib.hid hn
  have HF := Lib.hid hf
  have HZ := Lib.hid hsz
  clear hS hn hf hsz
  go_enter hF, Tryz.ntmps8
  go_wp2
  go_loopw [3, 4] (fun t i u => ∃ k : Nat, k ≤ n ∧ i = .int .i64 k ∧ t = .int .i64 (tot (L.take k) : Int) ∧ Below w.heap.size w u ∧ ∀ j, j < k → roundA L j = 0) (fun _ i _ => n - (intOf i).toNat)
  case atStart => exact ⟨0, Nat.zero_le _, rfl, rfl, Below.refl _ _, fun j h => absurd h (Nat.not_lt_zero j)⟩
  case round =>
    obtain ⟨k, hk, rfl, rfl, hb, hz⟩ := hrel
    by_cases hlt : k < n
    · obtain ⟨x, hx⟩ : ∃ x, L[k]? = some x := ⟨_, List.getElem?_eq_getElem (by have := HN.out; omega)⟩
      obtain ⟨b, o, rfl, hbB, m0, A', cap', m1, hm⟩ := (HS.out.below hb).at_ hx
      have ht1 := tot_succ hx
      have ht2 := tot_take_le L (k + 1)
      have ht3 := HF.out.2
      have hle : x.ms.length ≤ 300 := by omega
      have h300 : tot (L.take k) + x.ms.length ≤ 300 := by omega
      have hxs : x.mem.size ≤ maxLen := HZ.out x (List.mem_of_getElem? hx)
      have hst := fun (W : World) (h : MRow W W.heap.size A' x.ms) => check50_calls x.mem A' x.ms.length cap' x.ms W h rfl hle hxs
      have HX := Lib.hid hx
      have HB := Lib.hid hb
      have HM := Lib.hid (hm.more hb.size)
      have HT := Lib.hid ht1
      have HR := Lib.hid hz
      have hszw := hb.size
      clear hx hb hm ht1 ht2 ht3 hz hxs
      generalize tot (L.take k) = t0 at *
      by_cases hc : chkE x = 0
      · have hst' : ∀ (W : World), MRow W W.heap.size A' x.ms → Calls Vh 17 #[.agg #[.string x.mem, .slice A' x.ms.length cap']] W (IntRes 0 W) := fun W h => by have := hst W h; rwa [show (⟨x.mem, x.ms⟩ : Strm) = x from rfl, hc] at this
        have HC := Lib.hid hc
        clear hst hc
        go_wp2_with (go_at_call 17; refine (hst' _ HM.out).mono ?_; rintro e w' ⟨rfl, hbw⟩; have HBW := Lib.hid hbw; have hszw' := hbw.size; clear hbw)
        go_loopw [6] (fun i u => ∃ q : Nat, q ≤ k ∧ i = .int .i64 q ∧ Below w.heap.size w u ∧ ∀ j, j < q → ∀ y, L[j]? = some y → y.mem ≠ x.mem) (fun i _ => k - (intOf i).toNat)
        case atStart => exact ⟨0, Nat.zero_le _, rfl, HB.out.trans (HBW.out.mono (by omega)), fun j h => absurd h (Nat.not_lt_zero j)⟩
        case round =>
          obtain ⟨q, hq, rfl, hb2, hz2⟩ := hrel
          obtain ⟨b2, o2, eA, _, p0, A2, cap2, p1, _⟩ := (HS.out.below hb2).at_ HX.out
          cases eA
          by_cases hqk : q < k
          · obtain ⟨y, hy⟩ : ∃ y, L[q]? = some y := ⟨_, List.getElem?_eq_getElem (by have := HN.out; omega)⟩
            obtain ⟨b3, o3, eA, _, q0, A3, cap3, q1, _⟩ := (HS.out.below hb2).at_ hy
            cases eA
            have HY := Lib.hid hy
            have HB2 := Lib.hid hb2
            have HZ2 := Lib.hid hz2
            clear hy hb2 hz2
            by_cases he : y.mem = x.mem
            · have HE := Lib.hid he
              rw [he] at q0
              clear he
              go_wp2_with fail
              go_quiet (fail)
              go_wp2_with fail
              go_ret
              have HG : allE L = 7 := by
                have h := roundA_dup HX.out HC.out ⟨q, y, hqk, HY.out, HE.out⟩
                rw [← h]
                exact firstE_at (by rw [HN.out]; exact hlt) HR.out (by rw [h]; decide)
              rw [HG]
              exact ⟨rfl, below_drewN HB2.out _⟩
            · have HE := Lib.hid he
              have he' := ba_ne he
              clear he
              go_wp2_with fail
              go_quiet (fail)
              go_wp2_with fail
              go_roundw
              case rel =>
                refine ⟨q + 1, by omega, by go_num, below_drewN HB2.out _, fun j hj z hz => ?_⟩
                by_cases hjq : j < q
                · exact HZ2.out j hjq z hz
                · obtain rfl : j = q := by omega
                  rw [HY.out] at hz
                  cases hz
                  exact HE.out
              case measure => simp [intOf]; omega
          · have hqe : q = k := by omega
            subst hqe
            have HB2 := Lib.hid hb2
            have HD := Lib.hid (show ¬ Dup L q x.mem from fun ⟨j, y, h1, h2, h3⟩ => hz2 j h1 y h2 h3)
            clear hb2 hz2
            go_wp2_with fail
            go_roundw
            case rel =>
              refine ⟨q + 1, by omega, by go_num, by rw [HT.out]; go_num, HB2.out, fun j hj => ?_⟩
              by_cases hjq : j < q
              · exact HR.out j hjq
              · obtain rfl : j = q := by omega
                exact roundA_ok HX.out HC.out HD.out
            case measure => simp [intOf]; omega
      · have HC := Lib.hid hc
        have hc' : (chkE x != 0) = true := by simpa using hc
        clear hc
        go_wp2_with (go_at_call 17; refine (hst _ HM.out).mono ?_; rintro e w' ⟨rfl, hbw⟩; have HBW := Lib.hid hbw; clear hbw)
        go_ret
        have HG : allE L = chkE x := by
          have h := roundA_chk HX.out HC.out
          rw [← h]
          exact firstE_at (by rw [HN.out]; exact hlt) HR.out (by rw [h]; exact HC.out)
        rw [HG]
        exact ⟨rfl, HB.out.trans (HBW.out.mono (by omega))⟩
    · have hkn : k = n := by omega
      subst hkn
      have HG := Lib.hid (show allE L = 0 from by unfold allE; rw [HN.out]; exact firstE_none hz)
      have HB := Lib.hid hb
      clear hz hb
      go_wp2
      go_ret
      rw [HG.out]
      exact ⟨rfl, HB.out⟩
end Go.Proofs.YtmmjlngbiilagaaGreatDoor

/-
  ALONE: the reference's Insert: an append of many, in a drawn region.
-/
namespace Go.Proofs.YtmmjlngbiilagaaGreatDoor
open Go Go.Conc Go.Shelf Go.RowKit Go.Lib

theorem infoR : (Vh.info? 49).map (fun i => (i.zero, i.size, i.bytes)) = some (some (.agg #[.int .i64 0, .string ⟨#[]⟩, .int .i64 0, .string ⟨#[]⟩]), 4, 48) := by kernel_rfl
theorem undR : Vh.underlying 44 = some (.slice 49) := by kernel_rfl
theorem cellsL_length (ms : List M4) : (cellsL ms).length = ms.length * 4 := by
  induction ms with
  | nil => rfl
  | cons x ms ih => simp only [cellsL, List.flatMap_cons, List.length_append, List.length_cons] at ih ⊢; rw [ih]; simp [M4.cells]; omega
theorem cellsL_at : ∀ {ms : List M4} {j : Nat} {u : Value}, (cellsL ms)[j]? = some u → ∃ (x : M4), ms[j / 4]? = some x ∧ x.cells[j % 4]? = some u := by
  intro ms
  induction ms with
  | nil => intro j u h; simp [cellsL] at h
  | cons y ms ih =>
    intro j u h
    have e : cellsL (y :: ms) = y.cells ++ cellsL ms := by simp [cellsL]
    rw [e] at h
    have hl : y.cells.length = 4 := rfl
    by_cases hj : j < 4
    · rw [List.getElem?_append_left (by omega)] at h
      have h0 : j / 4 = 0 := by omega
      have h1 : j % 4 = j := by omega
      rw [h0, h1]
      exact ⟨y, rfl, h⟩
    · rw [List.getElem?_append_right (by omega), hl] at h
      obtain ⟨x, h1, h2⟩ := ih h
      have e1 : j / 4 = (j - 4) / 4 + 1 := by omega
      have e2 : j % 4 = (j - 4) % 4 := by omega
      rw [e1, e2]
      exact ⟨x, by simpa using h1, h2⟩
theorem cellsL_one (ms : List M4) : ∀ u ∈ cellsL ms, u.oneCell' = true := fun u hu => by
  simp only [cellsL, List.mem_flatMap] at hu
  obtain ⟨x, _, hx⟩ := hu
  simp only [M4.cells, List.mem_cons, List.not_mem_nil, or_false] at hx
  rcases hx with rfl | rfl | rfl | rfl <;> rfl
theorem MRow.news {w : World} {b o : Nat} {ms : List M4} (h : ∀ (j : Nat) (x : M4), ms[j]? = some x →
    w.cell? ⟨b, o + j * 4, none⟩ = some (.int .i64 x.t) ∧ w.cell? ⟨b, o + j * 4 + 1, none⟩ = some (.string x.m) ∧ w.cell? ⟨b, o + j * 4 + 2, none⟩ = some (.int .i64 x.s) ∧ w.cell? ⟨b, o + j * 4 + 3, none⟩ = some (.string x.p)) :
    ∀ j u, (cellsL ms)[j]? = some u → w.cell? ((⟨b, o, none⟩ : Addr).add j) = some u := fun j u hu => by
  obtain ⟨x, h1, h2⟩ := cellsL_at hu
  obtain ⟨c0, c1, c2, c3⟩ := h _ x h1
  have e : (⟨b, o, none⟩ : Addr).add j = ⟨b, o + j / 4 * 4 + j % 4, none⟩ := by
    rw [Addr.add_lit]
    have : o + j = o + j / 4 * 4 + j % 4 := by omega
    rw [this]
  rw [e]
  have h4 : j % 4 < 4 := Nat.mod_lt _ (by decide)
  generalize j % 4 = r at *
  obtain rfl | rfl | rfl | rfl : r = 0 ∨ r = 1 ∨ r = 2 ∨ r = 3 := by omega
  all_goals
    simp only [M4.cells, List.getElem?_cons_zero, List.getElem?_cons_succ, Option.some.injEq] at h2
    subst h2
    assumption
theorem run_app0 {P : Program} (w : World) (base : Nat) (t ty e : TypeId) (i : TypeInfo) (size : Nat) (ht : P.underlying t = some (.slice e)) (hi : P.info? e = some i)
    (v : Value) (n : Nat) (xs : List Value) (hown : w.ownsRow base e size v n xs) (A : Option Addr) (c : Nat) : (Builtin.append_ #[t, t] ty #[v, .slice A 0 c]).run P w = .ok v w := by
  rcases hown.2 with ⟨rfl, rfl⟩ | ⟨g, cap, cur, rfl, _, _, hnc, _⟩
  · cases A <;> simp [Builtin.append_, run_underlying ht, sizeOf, typeInfo, hi, Builtin.lenOf, Builtin.firstCells, loadCells, loadCellsFrom]
  · cases A <;> simp [Builtin.append_, run_underlying ht, sizeOf, typeInfo, hi, Builtin.lenOf, Builtin.firstCells, hnc, storeCells, loadCells, loadCellsFrom]
/-- Some messages appended to a row of the call's own: at a step of a region that draws its order. -/
theorem step_appM {ops : Array Oper} {o : Oper} {a : Act} {w : World} {K : Act → World → Prop} {Q : Exit → Act → World → Prop} {E : Prop} (hgd : o.guard = none) (s x : Operand)
    (ho : o.op = .call { callee := .builtin .append, args := #[s, x], argTypes := #[44, 44] }) (base : Nat) (v : Value) (n : Nat) (xs : List Value) (hs : a.eval s = v) (hown : w.ownsRow base 49 4 v n xs)
    (A : Option Addr) (m c B : Nat) (ms : List M4) (hx : a.eval x = .slice A m c) (hms : ms.length = m) (hrow : MRow w B A ms) (hn : n + m ≤ 100000) (hbase : base ≤ w.heap.size) (H : Nat) (hH : w.heap.size = H)
    (h : ∀ v' w' A' cap, v' = .slice A' (n + m) cap → w'.ownsRow base 49 4 v' (n + m) (xs ++ cellsL ms) → w.grownBy w' v.ownBlock → (v'.ownBlock = v.ownBlock ∨ v'.ownBlock = some H) → K (a.put o.dst v') w') :
    if Region.wanted o (yielded ops a.tmps) = true then Oper.wp Vh o a w K Q else E := by
  obtain ⟨i0, hi0, hz0, hz1, hz2⟩ := info_parts infoR
  rcases Nat.eq_zero_or_pos m with hm | hm
  · subst hm
    have hw : Region.wanted o (yielded ops a.tmps) = true := by simp [Region.wanted, hgd]
    rw [if_pos hw]
    obtain rfl : ms = [] := List.length_eq_zero_iff.1 hms
    have hrun : (Builtin.append_ #[44, 44] o.type #[v, .slice A 0 c]).run Vh w = .ok v w := run_app0 w base _ _ _ i0 4 undR hi0 v n xs hown A c
    unfold Oper.wp
    simp [execOp, ho, resolve, invoke, builtin, hs, hx, hrun, Result.andThen]
    obtain ⟨A', cap, hv⟩ : ∃ A' cap, v = .slice A' n cap := by
      rcases hown.2 with ⟨rfl, rfl⟩ | ⟨g, cap, cur, rfl, _⟩
      · exact ⟨none, 0, rfl⟩
      · exact ⟨_, _, rfl⟩
    refine h v w A' cap (by simpa using hv) (by simpa [cellsL] using hown) (World.grownBy.refl w _) (.inl rfl)
  · rcases hrow with rfl | ⟨b, off, rfl, _, hc⟩
    · simp at hms; omega
    · refine step_append_lies w hgd s x 44 ho base 49 i0 _ 4 48 undR hi0 hz0 hz1 hz2 rfl (by omega) v n xs hs hown ⟨b, off, none⟩ m c (cellsL ms) hx (by rw [cellsL_length, hms]) (MRow.news hc) (cellsL_one ms) hm (by simp only [maxLen]; omega) (by omega) hbase H hH
        fun g cap w' h1 h2 h3 _ => h _ w' _ cap rfl h1 h2 (h3.elim (fun e => .inl (by rw [e]; rfl)) fun e => .inr (by rw [e]; rfl))
end Go.Proofs.YtmmjlngbiilagaaGreatDoor
