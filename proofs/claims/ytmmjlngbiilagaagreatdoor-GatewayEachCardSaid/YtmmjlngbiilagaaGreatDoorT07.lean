/-
  OPERATIONS THAT TOUCH MEMORY, each by what it does and by what it lists: a load, a store, a new block, a slice literal, an append; and a step of a goroutine that owns blocks by such an operation.
-/
import Derived.Test.YtmmjlngbiilagaaGreatDoorT06
import Derived.Conc.AppendWalk
import Derived.Deep.MidRow
import Derived.Laws.Tables
import Derived.Great.BuildSlice
import Derived.Conc.WgWords

namespace Go.Proofs.YtmmjlngbiilagaaGreatDoor
open Go Go.Conc

/-- What an operation does in this world: where it leads; a law of all that it lists. -/
def Yld (P : Program) (o : Oper) (a : Act) (w : World) (E : Event → Prop) (a' : Act) (w' : World) : Prop :=
  (∀ K : Act → World → Prop, K a' w' → uponK o a K ((execOp a.eval o).run P w)) ∧ ∀ e ∈ (execOp a.eval o).events P w #[], E e

/-- A plain read in block b. -/
def RdB (b : Nat) (e : Event) : Prop := ∃ ad : Addr, e = ⟨.cell ad, false, false⟩ ∧ ad.block = b
/-- A plain access in block b. -/
def AcB (b : Nat) (e : Event) : Prop := ∃ (ad : Addr) (wr : Bool), e = ⟨.cell ad, wr, false⟩ ∧ ad.block = b
/-- Nothing. -/
def NoE (_ : Event) : Prop := False

section
variable {P : Program} {o : Oper} {a a' : Act} {w w' : World} {E E' : Event → Prop}

theorem Yld.mono (h : Yld P o a w E a' w') (hE : ∀ e, E e → E' e) : Yld P o a w E' a' w' := ⟨h.1, fun e he => hE e (h.2 e he)⟩

/-- By the value that it yields. -/
theorem Yld.value {v : Value} (hr : (execOp a.eval o).run P w = .ok (.value v) w') (he : ∀ e ∈ (execOp a.eval o).events P w #[], E e) : Yld P o a w E (a.put o.dst v) w' :=
  ⟨fun K hK => by rw [hr]; exact hK, he⟩
theorem Yld.skip (hr : (execOp a.eval o).run P w = .ok .skip w') (he : ∀ e ∈ (execOp a.eval o).events P w #[], E e) : Yld P o a w E (a.put o.dst undef) w' :=
  ⟨fun K hK => by rw [hr]; exact hK, he⟩

theorem add0 (b o j : Nat) : (⟨b, o, none⟩ : Addr).add j = ⟨b, o + j, none⟩ := Addr.add_mid b o j

theorem events_load1 {ad : Addr} {v : Value} (hc : w.cell? ad = some v) (es : Array Event) : (load ad).events P w es = es.push ⟨.cell ad, false, false⟩ := by
  rw [events_load, hc]
  rfl

theorem events_loadRow (b off : Nat) : ∀ (cs : List Value) (i : Nat) (acc : Array Value) (es : Array Event), (∀ j v, cs[j]? = some v → w.cell? ⟨b, off + i + j, none⟩ = some v) →
    ∀ e ∈ (loadCellsFrom ⟨b, off, none⟩ i cs.length acc).events P w es, e ∈ es ∨ RdB b e
  | [], _, _, _, _ => fun e h => .inl (by simpa [loadCellsFrom] using h)
  | v :: cs, i, acc, es, hc => fun e h => by
    have h0 : w.cell? ((⟨b, off, none⟩ : Addr).add i) = some v := by rw [add0]; simpa using hc 0 v rfl
    have hr : (load ((⟨b, off, none⟩ : Addr).add i)).run P w = .ok v w := by simp [h0]
    simp only [List.length_cons, loadCellsFrom, Sem.events_bind, hr, Result.evThen_ok, events_load1 h0] at h
    rcases events_loadRow b off cs (i + 1) _ _ (fun j u hu => by have := hc (j + 1) u (by simpa using hu); rwa [show off + i + (j + 1) = off + (i + 1) + j by omega] at this) e h with h | h
    · rcases Array.mem_push.1 h with h | rfl
      · exact .inl h
      · exact .inr ⟨_, rfl, by rw [add0]⟩
    · exact .inr h

/-- A LOAD OF A WHOLE VARIABLE OF SEVERAL CELLS. -/
theorem yld_load {ty : TypeId} {x : Operand} (ho : o.op = .load ty x) {b off : Nat} (hx : a.eval x = .pointer (some ⟨b, off, none⟩)) {cs : List Value} (hc : w.rangeAt b off cs)
    (ha : (isAgg ty).run P w = .ok true w) (hs : (sizeOf ty).run P w = .ok cs.length w) (hae : ∀ es, (isAgg ty).events P w es = es) (hse : ∀ es, (sizeOf ty).events P w es = es) :
    Yld P o a w (RdB b) (a.put o.dst (.agg cs.toArray)) w := by
  have hl : (loadCells ⟨b, off, none⟩ cs.length).run P w = .ok cs.toArray w :=
    run_loadCells_list (P := P) w ⟨b, off, none⟩ cs (fun j v hv => by rw [add0]; exact hc j v hv)
  refine Yld.value ?_ ?_
  · unfold execOp
    simp [ho, hx, Instr.loadAt, Instr.sureAddr, loadVar, Sem.run_bind, ha, hs, hl]
  · intro e he
    unfold execOp at he
    simp only [ho, hx, Instr.loadAt, Instr.sureAddr, loadVar, Sem.events_bind, Sem.run_bind, Sem.run_pure, Sem.events_pure, Result.evThen_ok, Result.andThen_ok, ha, hae, hs, hse, hl, if_true] at he
    unfold loadCells at he
    rcases events_loadRow b off cs 0 #[] #[] (fun j v hv => by simpa using hc j v hv) e he with h | h
    · simp at h
    · exact h

/-- A LOAD OF ONE CELL. -/
theorem yld_load1 {ty : TypeId} {x : Operand} (ho : o.op = .load ty x) {ad : Addr} (hx : a.eval x = .pointer (some ad)) {v : Value} (hc : w.cell? ad = some v)
    (ha : (isAgg ty).run P w = .ok false w) (hae : ∀ es, (isAgg ty).events P w es = es) :
    Yld P o a w (RdB ad.block) (a.put o.dst v) w := by
  refine Yld.value ?_ ?_
  · unfold execOp
    simp [ho, hx, Instr.loadAt, Instr.sureAddr, loadVar, Sem.run_bind, ha, hc]
  · intro e he
    unfold execOp at he
    simp only [ho, hx, Instr.loadAt, Instr.sureAddr, loadVar, Sem.events_bind, Sem.run_bind, Sem.run_pure, Sem.events_pure, Result.evThen_ok, Result.andThen_ok, ha, hae, Bool.false_eq_true, if_false] at he
    have hr : (load ad).run P w = .ok v w := by simp [hc]
    rw [hr, events_load1 hc] at he
    simp only [Result.evThen_ok, Sem.events_pure] at he
    simp at he
    exact ⟨_, he, rfl⟩

/-- A NEW VARIABLE. -/
theorem yld_alloc {ty : TypeId} (ho : o.op = .alloc ty) {z : Value} (hz : (zeroValue ty).run P w = .ok z w) (hze : ∀ es, (zeroValue ty).events P w es = es) :
    Yld P o a w NoE (a.put o.dst (.pointer (some ⟨w.heap.size, 0, none⟩))) (w.alloc (.cells z.cells ty)) := by
  refine Yld.value ?_ ?_
  · unfold execOp
    simp [ho, Instr.alloc, hz, newVar, newRow]
  · intro e he
    unfold execOp at he
    simp [ho, Instr.alloc, Sem.events_bind, hz, hze, newVar, newRow] at he

/-- .. holding a value. -/
theorem yld_box {ty : TypeId} {x : Operand} (ho : o.op = .box ty x) :
    Yld P o a w NoE (a.put o.dst (.pointer (some ⟨w.heap.size, 0, none⟩))) (w.alloc (.cells (a.eval x).cells ty)) := by
  refine Yld.value ?_ ?_
  · unfold execOp
    simp [ho, Instr.box, newVar, newRow]
  · intro e he
    unfold execOp at he
    simp [ho, Instr.box, newVar, newRow] at he

theorem events_storeRow (g : Nat) (t : TypeId) : ∀ (vs : List Value) (i : Nat) (cur : Array Value) (w : World) (es : Array Event), w.heap[g]? = some (.cells cur t (0, 0)) → i + vs.length ≤ cur.size → (∀ v ∈ vs, v.oneCell' = true) →
    ∀ e ∈ (storeCells ⟨g, 0, none⟩ vs i).events P w es, e ∈ es ∨ AcB g e
  | [], _, _, _, _, _, _, _ => fun e h => .inl (by simpa [storeCells] using h)
  | v :: rest, i, cur, w, es, hg, hl, h1 => fun e h => by
    have hi : i < cur.size := by simp at hl; omega
    have hadd : (⟨g, 0, none⟩ : Addr).add i = ⟨g, i, none⟩ := by rw [add0, Nat.zero_add]
    have hcell : w.cell? ⟨g, i, none⟩ = some cur[i] := by simp [World.cell?, hg, hi]
    have hfro : w.frozen? ⟨g, i, none⟩ = false := by simp [World.frozen?, hg]
    have hst : (store ((⟨g, 0, none⟩ : Addr).add i) v).run P w = .ok () (w.setRow g (cur.setIfInBounds i v)) := by
      rw [hadd, run_store P w _ v _ (h1 v (by simp)), hcell]
      simp [hfro, setCell_eq_setRow w g i cur t (0, 0) v hg]
    have hev : (store ((⟨g, 0, none⟩ : Addr).add i) v).events P w es = es.push ⟨.cell ⟨g, i, none⟩, true, false⟩ := by
      rw [hadd, events_store P w es _ v _ (h1 v (by simp)), hcell]
      simp only [hfro, Bool.false_eq_true, if_false]
      rfl
    simp only [storeCells, Sem.events_bind, hst, Result.evThen_ok, hev] at h
    rcases events_storeRow g t rest (i + 1) (cur.setIfInBounds i v) (w.setRow g (cur.setIfInBounds i v)) _ (setRow_heap w g cur _ t _ hg) (by simp at hl ⊢; omega) (fun x hx => h1 x (by simp [hx])) e h with h | h
    · rcases Array.mem_push.1 h with h | rfl
      · exact .inl h
      · exact .inr ⟨_, _, rfl, rfl⟩
    · exact .inr h

/-- A STORE OF A WHOLE BLOCK. -/
theorem yld_store {ty : TypeId} {x y : Operand} (ho : o.op = .store ty x y) {g : Nat} (hx : a.eval x = .pointer (some ⟨g, 0, none⟩)) {v : Value} (hy : a.eval y = v) {t : TypeId} {old : Array Value} (hg : w.heap[g]? = some (.cells old t (0, 0)))
    (hs : (sizeOf ty).run P w = .ok v.cells.size w) (hse : ∀ es, (sizeOf ty).events P w es = es) (hold : old.size = v.cells.size) (h1 : v.cells.all (·.oneCell') = true) :
    Yld P o a w (AcB g) (a.put o.dst undef) (w.setRow g v.cells) := by
  have h1' : ∀ u ∈ v.cells.toList, u.oneCell' = true := fun u hu => (Array.all_eq_true_iff_forall_mem.1 h1) u (by simpa using hu)
  have hst := run_storeCells_from (P := P) g t v.cells.toList 0 old w hg (by simp; omega) h1'
  have hfin : (storeVar ty ⟨g, 0, none⟩ v).run P w = .ok () (w.setRow g v.cells) := by
    simp [storeVar, Sem.run_bind, hs, hst]
  refine Yld.skip ?_ ?_
  · unfold execOp
    simp [ho, hx, hy, Instr.storeAt, Instr.sureAddr, hfin]
  · intro e he
    unfold execOp at he
    simp only [ho, hx, hy, Instr.storeAt, Instr.sureAddr, storeVar, Sem.events_bind, Sem.run_bind, Sem.run_pure, Sem.events_pure, Result.evThen_ok, Result.andThen_ok, hs, hse] at he
    have hne : (v.cells.size ≠ v.cells.size) = False := by simp
    simp only [hne, if_false, Sem.events_bind, Sem.run_bind, Sem.run_pure, Sem.events_pure, Result.evThen_ok, Result.andThen_ok, hst] at he
    rcases events_storeRow g t v.cells.toList 0 old w #[] hg (by simp; omega) h1' e he with h | h
    · simp at h
    · exact h
end
end Go.Proofs.YtmmjlngbiilagaaGreatDoor

/-
  ON: a slice literal; an append, whose entries are plain; a step of a goroutine that owns blocks.
-/
namespace Go.Proofs.YtmmjlngbiilagaaGreatDoor
open Go Go.Conc

/-- An access of a cell is plain. -/
def PlE (e : Event) : Prop := ∀ a, e.loc = .cell a → e.sync = false
/-- What is listed adds plain entries alone. -/
def Pl (P : Program) {α : Type} (s : Sem α) : Prop := ∀ w es, (∀ e ∈ es, PlE e) → ∀ e ∈ s.events P w es, PlE e

section
variable {P : Program} {α β : Type}
theorem Pl.bind {s : Sem α} {f : α → Sem β} (hs : Pl P s) (hf : ∀ v, Pl P (f v)) : Pl P (s >>= f) := fun w es h => by
  rw [Sem.events_bind]
  cases s.run P w with
  | ok v w' => exact hf v w' _ (hs w es h)
  | halt x w' => exact hs w es h
theorem Pl.same {s : Sem α} (h : ∀ w es, s.events P w es = es) : Pl P s := fun w es hes => by rw [h]; exact hes
theorem Pl.pure (v : α) : Pl P (Pure.pure v : Sem α) := Pl.same fun _ _ => rfl
theorem Pl.stuck (x : String) : Pl P (stuck x : Sem α) := Pl.same fun _ _ => rfl
theorem Pl.unsupported (x : Unsupported) : Pl P (unsupported x : Sem α) := Pl.same fun _ _ => rfl
theorem Pl.choose (q : Question) : Pl P (choose q) := Pl.same fun _ _ => by simp
theorem Pl.newObj (o : Obj) : Pl P (newObj o) := Pl.same fun _ _ => rfl
theorem Pl.mark (m : Mark) : Pl P (mark m) := fun w es h e he => by
  rw [events_mark] at he
  rcases Array.mem_push.1 he with he | rfl
  · exact h e he
  · intro a ha; cases ha
theorem Pl.load (a : Addr) : Pl P (load a) := fun w es h e he => by
  rw [events_load] at he
  split at he
  · rcases Array.mem_push.1 he with he | rfl
    · exact h e he
    · intro _ _; rfl
  · split at he
    · rcases Array.mem_append.1 he with he | he
      · exact h e he
      · obtain ⟨x, _, rfl⟩ := Array.mem_map.1 he
        intro _ _; rfl
    · exact h e he
theorem Pl.typeInfo (t : TypeId) : Pl P (typeInfo t) := Pl.same fun w es => by
  unfold Go.typeInfo
  rw [Sem.events_bind]
  simp only [run_program, Result.evThen_ok, events_program]
  split <;> rfl
theorem Pl.underlying (t : TypeId) : Pl P (underlying t) := Pl.same fun w es => by
  unfold Go.underlying
  rw [Sem.events_bind]
  simp only [run_program, Result.evThen_ok, events_program]
  split <;> rfl
theorem Pl.sizeOf (t : TypeId) : Pl P (sizeOf t) := Pl.bind (Pl.typeInfo t) fun _ => Pl.pure _
theorem Pl.zeroValue (t : TypeId) : Pl P (zeroValue t) := Pl.bind (Pl.typeInfo t) fun i => by
  split
  · exact Pl.pure _
  · exact Pl.unsupported _
theorem Pl.loadCellsFrom (a : Addr) : ∀ (n i : Nat) (acc : Array Value), Pl P (loadCellsFrom a i n acc)
  | 0, _, _ => Pl.pure _
  | n + 1, i, _ => Pl.bind (Pl.load _) fun _ => Pl.loadCellsFrom a n (i + 1) _
theorem Pl.firstCells (size n : Nat) (v : Value) : Pl P (Builtin.firstCells size n v) := by
  unfold Builtin.firstCells
  split
  · exact Pl.loadCellsFrom _ _ _ _
  · exact Pl.pure _
  · exact Pl.pure _
  · exact Pl.stuck _
theorem Pl.newRow (e : TypeId) (cells : Array Value) : Pl P (newRow e cells) := Pl.bind (Pl.newObj _) fun _ => Pl.pure _
theorem Pl.askRoom (b : Nat) : Pl P (askRoom b) := by
  unfold Go.askRoom
  split
  · exact Pl.mark _
  · exact Pl.pure _
end

section
variable {P : Program} (w : World)

/-- ALL THAT AN append LISTS: a plain read in the source's block; a plain access in the block that the slice owns; the mark that counts nowhere. -/
theorem events_append_plain (base : Nat) (t ty e : TypeId) (i : TypeInfo) (z : Value) (size bytes : Nat) (ht : P.underlying t = some (.slice e)) (hi : P.info? e = some i) (hz : i.zero = some z)
    (hsize : i.size = size) (hby : i.bytes = bytes) (hzs : z.cells.size = size) (hsz : 0 < size)
    (v : Value) (n : Nat) (xs : List Value) (hown : w.ownsRow base e size v n xs)
    (a : Addr) (m c : Nat) (news : List Value) (hl : news.length = m * size) (hnews : ∀ j u, news[j]? = some u → w.cell? (a.add j) = some u) (h1 : ∀ u ∈ news, u.oneCell' = true)
    (h63 : n + m ≤ maxLen) (hbytes : (n + m) * bytes ≤ 140737488355328) (hns : ∀ x ∈ news, ∀ (a : Addr) (w : World) (es : Array Event), (∀ e ∈ es, PlE e) → ∀ e ∈ (store a x).events P w es, PlE e) :
    ∀ ev ∈ (Builtin.append_ #[t, t] ty #[v, .slice (some a) m c]).events P w #[], (∃ (ad : Addr) (wr : Bool), ev = ⟨.cell ad, wr, false⟩ ∧ ((wr = false ∧ ad.block = a.block) ∨ some ad.block = v.ownBlock)) ∨ ∃ m, ev = ⟨.mark m, false, true⟩ ∧ Neutral m := by
  have hst : ∀ (b : Addr) (vs : List Value) (k : Nat), (∀ x ∈ vs, x ∈ news) → Pl P (storeCells b vs k) := by
    intro b vs
    induction vs with
    | nil => intro k _; exact Pl.pure _
    | cons x vs ih => intro k hx; exact Pl.bind (fun w es => hns x (hx x (by simp)) _ w es) fun _ => ih _ fun y hy => hx y (by simp [hy])
  have hpl : ∀ e ∈ (Builtin.append_ #[t, t] ty #[v, .slice (some a) m c]).events P w #[], PlE e := by
    have hf : ∀ w', (∀ ad, w'.cell? ad = w.cell? ad) → (Builtin.firstCells i.size m (.slice (some a) m c)).run P w' = .ok news.toArray w' := fun w' hw' =>
      run_firstCells_some (P := P) w' i.size m a m c news (by rw [hsize]; exact hl) (fun j u hu => by rw [hw']; exact hnews j u hu)
    have none0 : ∀ e ∈ (#[] : Array Event), PlE e := by intro e he; simp at he
    intro ev hev
    rcases hown.2 with ⟨rfl, rfl⟩ | ⟨g, cap, cur, rfl, hbg, hg, hnc, hcm, hcs, htake⟩
    · have h63' : ¬ (9223372036854775807 < ((0 : Nat) : Int) + (m : Int)) := by simp only [maxLen] at h63; omega
      by_cases hm : m = 0
      · subst hm
        simp [Builtin.append_, run_underlying ht, sizeOf, typeInfo, hi, Builtin.lenOf] at hev
        exact Pl.firstCells _ _ _ _ _ none0 ev hev
      · have h48' : ¬ (281474976710656 < Builtin.nextslicecap m 0 * i.bytes) := by rw [nextslicecap_zero (by omega), hby]; simp only [Nat.zero_add] at hbytes; omega
        have h63'' : ¬ (9223372036854775807 < (m : Int)) := by simp only [maxLen] at h63; omega
        simp [Builtin.append_, run_underlying ht, sizeOf, typeInfo, zeroValue, hi, hz, Builtin.lenOf, hm, h63'', h48', Question.forced, run_firstCells_none, hf w.drew (fun _ => rfl), newRow] at hev
        exact Pl.firstCells _ _ _ _ _ (Pl.firstCells _ _ _ _ _ (Pl.askRoom _ _ _ none0)) ev hev
    · by_cases hroom : n + m ≤ cap
      · simp [Builtin.append_, run_underlying ht, sizeOf, typeInfo, hi, Builtin.lenOf, hroom, hf w (fun _ => rfl)] at hev
        exact hst _ _ _ (fun x hx => by simpa using hx) _ _ (Pl.firstCells _ _ _ _ _ none0) ev hev
      · have h63' : ¬ (9223372036854775807 < ((n : Int) + (m : Int))) := by simp only [maxLen] at h63; omega
        have h48' : ¬ (281474976710656 < Builtin.nextslicecap (n + m) cap * i.bytes) := by have := growslice_fits (need := n + m) (old := cap) (bytes := i.bytes) (by omega) (by rw [hby]; exact hbytes); omega
        have holds : ∀ j u, xs[j]? = some u → w.cell? ((⟨g, 0, none⟩ : Addr).add j) = some u := hown.cells (g := g) rfl
        have hfo := run_firstCells_some (P := P) w.drew i.size n ⟨g, 0, none⟩ n cap xs (by rw [hsize]; exact hown.1) (by simpa using holds)
        simp [Builtin.append_, run_underlying ht, sizeOf, typeInfo, zeroValue, hi, hz, Builtin.lenOf, hroom, h63', h48', Question.forced, hf w.drew (fun _ => rfl), hfo, newRow] at hev
        exact Pl.firstCells _ _ _ _ _ (Pl.firstCells _ _ _ _ _ (Pl.askRoom _ _ _ none0)) ev hev
  intro ev hev
  rcases events_append_where w base t ty e i z size bytes ht hi hz hsize hby v n xs hown a m c news hl hnews h1 h63 hbytes ev hev with ⟨ad, hl, h⟩ | h
  · have hs := hpl ev hev ad hl
    obtain ⟨loc, wr, sy⟩ := ev
    simp only at hl hs
    subst hl hs
    exact .inl ⟨ad, wr, rfl, h⟩
  · exact .inr h
end

section
variable {P : Program} {o : Oper} {a a' : Act} {w w' : World}

theorem plStore {x : Value} (hx : x.oneCell' = true) : ∀ (a : Addr) (w : World) (es : Array Event), (∀ e ∈ es, PlE e) → ∀ e ∈ (store a x).events P w es, PlE e := fun a w es h e he => by
  rw [events_store P w es a x _ hx] at he
  split at he
  · split at he
    · exact h e he
    · rcases Array.mem_push.1 he with he | rfl
      · exact h e he
      · intro _ _; rfl
  · split at he
    · rcases Array.mem_append.1 he with he | he
      · exact h e he
      · obtain ⟨x, _, rfl⟩ := Array.mem_map.1 he
        intro _ _; rfl
    · exact h e he

/-- What an append of a goroutine's own slice lists. -/
def ApE (v : Value) (src : Nat) (e : Event) : Prop := (∃ (ad : Addr) (wr : Bool), e = ⟨.cell ad, wr, false⟩ ∧ ((wr = false ∧ ad.block = src) ∨ some ad.block = v.ownBlock)) ∨ ∃ m, e = ⟨.mark m, false, true⟩ ∧ Neutral m

/-- AN APPEND. -/
theorem yld_append {s x : Operand} {t : TypeId} (ho : o.op = .call { callee := .builtin .append, args := #[s, x], argTypes := #[t, t] }) (base : Nat) {e : TypeId} {i : TypeInfo} {z : Value} {size bytes : Nat} (ht : P.underlying t = some (.slice e)) (hi : P.info? e = some i)
    (hz : i.zero = some z) (hsize : i.size = size) (hby : i.bytes = bytes) (hzs : z.cells.size = size) (hsz : 0 < size) {v : Value} {n : Nat} {xs : List Value} (hown : w.ownsRow base e size v n xs)
    {ad : Addr} {m c : Nat} {news : List Value} (hs : a.eval s = v) (hx : a.eval x = .slice (some ad) m c) (hl : news.length = m * size) (hnews : ∀ j u, news[j]? = some u → w.cell? (ad.add j) = some u) (h1 : ∀ u ∈ news, u.oneCell' = true)
    (h63 : n + m ≤ maxLen) (hbytes : (n + m) * bytes ≤ 140737488355328) (hbase : base ≤ w.heap.size) :
    ∃ v' w', Yld P o a w (ApE v ad.block) (a.put o.dst v') w' ∧ w'.ownsRow base e size v' (n + m) (xs ++ news) ∧ w.grownBy w' v.ownBlock ∧ (v' = .slice none 0 0 ↔ v = .slice none 0 0 ∧ m = 0) := by
  obtain ⟨v', w', hr, h2, h3, h4⟩ := run_append_own (P := P) w base t o.type e i z size bytes ht hi hz hsize hby hzs hsz v n xs hown ad m c news hl hnews h1 h63 hbytes hbase
  refine ⟨v', w', ⟨fun K hK => uponK_append s x t ho hs hx hr hK, fun ev hev => ?_⟩, h2, h3, h4⟩
  rw [events_append_op s x t ho hs hx] at hev
  exact events_append_plain w base t o.type e i z size bytes ht hi hz hsize hby hzs hsz v n xs hown ad m c news hl hnews h1 h63 hbytes (fun y hy => plStore (h1 y hy)) ev hev

theorem events_buildSlice (w : World) (t e : TypeId) (len : Nat) (parts : Array (Nat × Value)) (cells : Array Value) (ie : TypeInfo) (z : Value)
    (hu : P.underlying t = some (.slice e)) (hie : P.info? e = some ie) (hz : ie.zero = some z) (hsmall : ¬ len * ie.size > 2 ^ 24) (hpos : ¬ len * ie.size = 0)
    (h : Instr.fill (fun i => some (i * ie.size, ie.size)) ((Array.range (len * ie.size)).map (z.cells[· % z.cells.size]!)) parts.toList = some cells) (es : Array Event) :
    (Instr.buildSlice t len parts).events P w es = es := by
  simp [Instr.buildSlice, run_underlying hu, sizeOf, typeInfo, zeroValue, hie, hz, hsmall, hpos, h, newRow]

/-- A SLICE LITERAL. -/
theorem yld_buildSlice {t e : TypeId} {len : Nat} {parts : Array (Nat × Operand)} (ho : o.op = .buildSlice t len parts) {cells : Array Value} {ie : TypeInfo} {z : Value} (hu : P.underlying t = some (.slice e)) (hie : P.info? e = some ie) (hz : ie.zero = some z)
    (hsmall : ¬ len * ie.size > 2 ^ 24) (hpos : ¬ len * ie.size = 0)
    (hf : Instr.fill (fun i => some (i * ie.size, ie.size)) ((Array.range (len * ie.size)).map (z.cells[· % z.cells.size]!)) (parts.map fun (i, x) => (i, a.eval x)).toList = some cells) :
    Yld P o a w NoE (a.put o.dst (.slice (some ⟨w.heap.size, 0, none⟩) len len)) (w.alloc (.cells cells e)) := by
  refine Yld.value ?_ ?_
  · unfold execOp
    simp only [ho, Sem.run_bind, run_buildSlice w t e len _ cells ie z hu hie hz hsmall hpos hf, Result.andThen_ok]
    rfl
  · intro ev hev
    unfold execOp at hev
    simp only [ho, Sem.events_bind, run_buildSlice w t e len _ cells ie z hu hie hz hsmall hpos hf, events_buildSlice w t e len _ cells ie z hu hie hz hsmall hpos hf, Result.evThen_ok, Sem.events_pure] at hev
    simp at hev
end

/-! ### a step of a goroutine that owns blocks -/
section
variable {P : Program} {main : Bool} {R : (Nat → Prop) → World → World → Prop} {Q : Nat → Prop} {Stop : (Nat → Prop) → Goroutine → World → Prop} {n : Nat} {O : Nat → Prop} {w : World}
  {b : Frame} {a : Act} {k : List Item} {cs : List Frame} {ops : Array Oper} {i : Nat} {rest : List Nat} {o : Oper}

theorem DOx.sub {O' : Nat → Prop} {w' : World} {es es' : Array Event} (h : DOx O O' Q w w' es) (hs : ∀ e ∈ es', e ∈ es) : DOx O O' Q w w' es' :=
  ⟨h.tape, h.os, h.output, h.size, h.block, h.keep, fun e he => h.ev e (hs e he), h.kd⟩

/-- BY AN OPERATION. -/
theorem GoesO.mem (ho : ops[i]? = some o) (hw : Region.wanted o (yielded ops a.tmps) = true) (hk : b.kind ≠ .early)
    (h : ∀ w₁, R O w w₁ → ∃ a' w' E O', Yld P o a w₁ E a' w' ∧ (∀ es, (∀ e ∈ es, E e) → DOx O O' Q w₁ w' es) ∧ GoesO P main R Q Stop n O' (G (b.at a' (.inRegion ops rest :: k)) cs) w') :
    GoesO P main R Q Stop (n + 1) O (G (b.at a (.inRegion ops (i :: rest) :: k)) cs) w := by
  refine GoesO.step rfl fun w₁ h₁ => ?_
  obtain ⟨a', w', E, O', hy, hd, hg⟩ := h w₁ h₁
  refine goes_oper_k ho hw hk fun K hK => hy.1 K (hK a' w' ⟨O', hd _ fun e he => hy.2 e (mem_listed he), hg⟩)

/-- what it may do -/
theorem dox_read {bl : Nat} (hq : O bl ∨ Q bl) : ∀ es : Array Event, (∀ e ∈ es, RdB bl e) → DOx O O Q w w es := fun es h =>
  ⟨rfl, rfl, rfl, Nat.le_refl _, fun _ _ _ => rfl, fun b hb => .inl hb, fun e he => by
    obtain ⟨ad, rfl, rfl⟩ := h e he
    exact ⟨rfl, hq.elim (fun x => .inl (.inl x)) fun x => .inr ⟨x, rfl⟩⟩, fun _ _ _ _ h => h⟩
theorem dox_new (ob : Obj) (hob : ∀ N, KindOk N ob := by intro N; trivial) : ∀ es : Array Event, (∀ e ∈ es, NoE e) → DOx O (fun b => O b ∨ b = w.heap.size) Q w (w.alloc ob) es := fun es h =>
  ⟨rfl, rfl, rfl, by simp, fun b hb _ => heap_alloc_old w ob b hb, fun b hb => hb.elim .inl fun e => .inr (by subst e; simp), fun e he => (h e he).elim, fun N _ _ _ h => h.alloc (hob N)⟩
theorem dox_row {g : Nat} (hg : O g) (cells : Array Value) : ∀ es : Array Event, (∀ e ∈ es, AcB g e) → DOx O O Q w (w.setRow g cells) es := fun es h =>
  ⟨rfl, rfl, rfl, by simp, fun b hb hn => setRow_other w g b cells (fun e => hn (by rw [e]; exact hg)), fun b hb => .inl hb, fun e he => by
    obtain ⟨ad, wr, rfl, rfl⟩ := h e he
    exact ⟨rfl, .inl (.inl hg)⟩, fun _ _ _ _ h => h.setRow _ _⟩
/-- An append: the slice's block is owned; behind it the new one. -/
theorem dox_append {v v' : Value} {src : Nat} {w' : World} {base : Nat} {e : TypeId} {size m : Nat} {xs : List Value} (hkd : ∀ N B, Kd N B w → Kd N B w') (hv : ∀ g, v.ownBlock = some g → O g) (hs : O src ∨ Q src) (hgr : w.grownBy w' v.ownBlock)
    (hv' : ∀ g, v'.ownBlock = some g → v.ownBlock = some g ∨ (w.heap.size ≤ g ∧ g < w'.heap.size)) : ∀ es : Array Event, (∀ e ∈ es, ApE v src e) → DOx O (fun b => O b ∨ v'.ownBlock = some b) Q w w' es := fun es h =>
  ⟨hgr.tape, hgr.os, hgr.output, hgr.size, fun b hb hn => hgr.block b hb (fun e => hn (hv b e.symm)), fun b hb => hb.elim .inl fun e => (hv' b e).elim (fun x => .inl (hv b x)) .inr, fun e he => by
    rcases h e he with ⟨ad, wr, rfl, ⟨rfl, rfl⟩ | h⟩ | ⟨m, rfl, hm⟩
    · exact ⟨rfl, hs.elim (fun x => .inl (.inl x)) fun x => .inr ⟨x, rfl⟩⟩
    · exact ⟨rfl, .inl (.inl (hv _ h.symm))⟩
    · exact hm, fun N B _ _ h => hkd N B h⟩
end
end Go.Proofs.YtmmjlngbiilagaaGreatDoor

/-
  A SENDER: it is born, defers Done, sends each message of its stream over the channel, and is done.
-/
namespace Go.Proofs.YtmmjlngbiilagaaGreatDoor
open Go Go.Conc Go.RowKit Go.Conc.Lib Go.ConcR.Gen
open Go.ConcR (KK wgBlock WgAt stA smA rd wr mk DC0)
open Go.ConcN (WgLive AtD4 WD)

section
variable {P : Program} {main : Bool} {D : World → World → Array Event → Prop} {St : Goroutine → World → Prop}
/-- In narrower company. -/
theorem goes_weaken {R R' : World → World → Prop} (hR : ∀ a b, R a b → R' a b) : ∀ {m : Nat} {g : Goroutine} {w : World}, Goes P main R' D St m g w → Goes P main R D St m g w
  | 0, _, _, h => fun w₁ h₁ => h w₁ (hR _ _ h₁)
  | m + 1, g, w, h => by
    rcases h with h | ⟨hs, h⟩
    · exact .inl fun w₁ h₁ => h w₁ (hR _ _ h₁)
    · refine .inr ⟨hs, fun w₁ h₁ => ?_⟩
      have := h w₁ (hR _ _ h₁)
      revert this
      cases stepG P main g w₁ <;> simp only [GStep.goes, imp_self]
      exact fun ⟨d, x⟩ => ⟨d, goes_weaken hR x⟩
theorem goesO_of_goes1 {R : (Nat → Prop) → World → World → Prop} {R' : World → World → Prop} {Q O : Nat → Prop} {Stop : (Nat → Prop) → Goroutine → World → Prop} (hR : ∀ a b, R O a b → R' a b) (hS : ∀ g w, St g w → Stop O g w) : ∀ {m : Nat} {g : Goroutine} {w : World}, Goes P main R' DC0 St m g w → GoesO P main R Q Stop m O g w
  | 0, _, _, h => fun w₁ h₁ => hS _ _ (h w₁ (hR _ _ h₁))
  | m + 1, g, w, h => by
    rcases h with h | ⟨hs, h⟩
    · exact .inl fun w₁ h₁ => hS _ _ (h w₁ (hR _ _ h₁))
    · refine .inr ⟨hs, fun w₁ h₁ => ?_⟩
      have := h w₁ (hR _ _ h₁)
      revert this
      cases stepG P main g w₁ <;> simp only [GStep.goes, imp_self]
      rintro ⟨⟨rfl, rfl⟩, x⟩
      exact ⟨O, ⟨rfl, rfl, rfl, Nat.le_refl _, fun _ _ _ => rfl, fun b hb => .inl hb, by simp, fun _ _ _ _ h => h⟩, goesO_of_goes1 hR hS x⟩
theorem goesO_of_goes0 {R : (Nat → Prop) → World → World → Prop} {R' : World → World → Prop} {Q O : Nat → Prop} (hR : ∀ a b, R O a b → R' a b) : ∀ {m : Nat} {g : Goroutine} {w : World}, Goes P main R' DC0 St m g w → GoesO P main R Q (fun _ g w => St g w) m O g w
  | 0, _, _, h => fun w₁ h₁ => h w₁ (hR _ _ h₁)
  | m + 1, g, w, h => by
    rcases h with h | ⟨hs, h⟩
    · exact .inl fun w₁ h₁ => h w₁ (hR _ _ h₁)
    · refine .inr ⟨hs, fun w₁ h₁ => ?_⟩
      have := h w₁ (hR _ _ h₁)
      revert this
      cases stepG P main g w₁ <;> simp only [GStep.goes, imp_self]
      rintro ⟨⟨rfl, rfl⟩, x⟩
      exact ⟨O, ⟨rfl, rfl, rfl, Nat.le_refl _, fun _ _ _ => rfl, fun b hb => .inl hb, by simp, fun _ _ _ _ h => h⟩, goesO_of_goes0 hR x⟩
end

section
variable {P : Program} {w : World}
theorem evAgg (t : TypeId) (es : Array Event) : (isAgg t).events P w es = es := by
  unfold isAgg
  rw [Sem.events_bind]
  have h : (underlying t).events P w es = es := by
    unfold underlying
    rw [Sem.events_bind]
    simp only [run_program, Result.evThen_ok, events_program]
    split <;> rfl
  rw [h]
  cases (underlying t).run P w with
  | halt x w' => rfl
  | ok d w' => simp only [Result.evThen_ok]; split <;> rfl
theorem evInfo (t : TypeId) (es : Array Event) : (typeInfo t).events P w es = es := by
  unfold typeInfo
  rw [Sem.events_bind]
  simp only [run_program, Result.evThen_ok, events_program]
  split <;> rfl
theorem evSize (t : TypeId) (es : Array Event) : (sizeOf t).events P w es = es := by
  unfold sizeOf
  rw [Sem.events_bind, evInfo]
  cases (typeInfo t).run P w <;> rfl
theorem evZero (t : TypeId) (es : Array Event) : (zeroValue t).events P w es = es := by
  unfold zeroValue
  rw [Sem.events_bind, evInfo]
  cases (typeInfo t).run P w with
  | halt x w' => rfl
  | ok d w' => simp only [Result.evThen_ok]; split <;> rfl
end

section
variable {P : Program} {ty : TypeId} {Wg Cm : Nat} {Q O : Nat → Prop} {b : Frame} {a : Act} {k : List Item} {cs : List Frame} {ops : Array Oper} {i : Nat} {rest : List Nat} {o : Oper} {w : World}
/-- AT A SEND. -/
theorem atSnd_of {x y : Operand} {v : Value} {Next : (Nat → Prop) → Goroutine → World → Prop} (ho : ops[i]? = some o) (hw : Region.wanted o (yielded ops a.tmps) = true) (hk : b.kind ≠ .early) (hop : o.op = .send x y)
    (hx : a.eval x = .chan (some Cm)) (hy : a.eval y = v) (next : ∀ w₁, RO ty Wg Q O w w₁ → Next O (G (b.at (a.put o.dst undef) (.inRegion ops rest :: k)) cs) w₁) :
    AtSnd P ty Wg Cm Q v Next O (G (b.at a (.inRegion ops (i :: rest) :: k)) cs) w := by
  refine ⟨rfl, .tuple #[], ?_, fun w₁ h₁ => ?_⟩
  · rw [stepG_comm (cases := #[scase Cm v (.tuple #[])]) (blocking := true) (shape := .send) (w' := w) ho hw hk (by simp [execOp, hop, hx, hy, scase])]
    have he : (execOp a.eval o).events P w #[] = #[] := by
      unfold execOp
      simp only [hop]
      rfl
    unfold listed
    rw [he]
    simp [seen, core_G]
  · have e : Conc.served (core (G (b.at a (.inRegion ops (i :: rest) :: k)) cs)) undef = G (b.at (a.put o.dst undef) (.inRegion ops rest :: k)) cs := by
      rw [core_G, served_G]
      simp [ho]
    rw [e]; exact next w₁ h₁
end

/-- A message. -/
structure M4 where
  t : Int
  m : ByteArray
  s : Int
  p : ByteArray
def M4.cells (x : M4) : List Value := [.int .i64 x.t, .string x.m, .int .i64 x.s, .string x.p]
def M4.val (x : M4) : Value := .agg x.cells.toArray

def bS : Frame := baseD 28
noncomputable def bot : Frame := { (default : Frame) with fn := Tryz.prog.funcs.size, defers := [], mode := .panicking [goexitEntry] }
noncomputable def bodyS : Code := Tryz.f28.body.getD .skip
noncomputable def loopS : Code := match bodyS with | .seq _ (.seq _ (.block _ (.loop c))) => c | _ => .skip
noncomputable def opsS4 : Array Oper := match loopS with | .seq _ (.seq _ (.seq (.block _ (.seq _ (.region _ ops _))) _)) => ops | _ => #[]
noncomputable def nxtS : Code := match loopS with | .seq _ (.seq _ (.seq (.block _ (.seq _ (.region _ ops _))) c)) => c | _ => .skip
def callS (Wg bs bc : Nat) : Deferred := { target := .fn (.func 28) #[.pointer (some ⟨Wg, 0, none⟩), .pointer (some ⟨bs, 0, none⟩), .pointer (some ⟨bc, 0, none⟩)], args := #[] }

theorem array15 (T : Array Value) (h : T.size = 15) : ∃ v0 v1 v2 v3 v4 v5 v6 v7 v8 v9 v10 v11 v12 v13 v14 : Value, T = #[v0, v1, v2, v3, v4, v5, v6, v7, v8, v9, v10, v11, v12, v13, v14] := by
  obtain ⟨l⟩ := T
  simp only [List.size_toArray] at h
  rcases l with _ | ⟨v0, _ | ⟨v1, _ | ⟨v2, _ | ⟨v3, _ | ⟨v4, _ | ⟨v5, _ | ⟨v6, _ | ⟨v7, _ | ⟨v8, _ | ⟨v9, _ | ⟨v10, _ | ⟨v11, _ | ⟨v12, _ | ⟨v13, _ | ⟨v14, _ | ⟨x, l⟩⟩⟩⟩⟩⟩⟩⟩⟩⟩⟩⟩⟩⟩⟩⟩ <;> simp at h
  exact ⟨v0, v1, v2, v3, v4, v5, v6, v7, v8, v9, v10, v11, v12, v13, v14, rfl⟩

/-- What it knows of the world. -/
structure SK (Wg Cm bs bc ba n cap : Nat) (a0 : Option Addr) (ms : List M4) (w : World) : Prop where
  box : ∃ x, w.heap[bs]? = some (.cells #[x, .slice a0 n cap] 60 (0, 0))
  chn : w.heap[bc]? = some (.cells #[.chan (some Cm)] 82 (0, 0))
  el : ∀ j x, ms[j]? = some x → w.rangeAt ba (j * 4) x.cells
  live : WgLive lk.tWg Wg w

section
variable {Wg Cm bs bc ba n cap : Nat} {a0 : Option Addr} {ms : List M4} {w w₁ : World} {O Q : Nat → Prop}

theorem rangeAt_block {b o : Nat} {cs : List Value} (h : w.rangeAt b o cs) (hb : w₁.heap[b]? = w.heap[b]?) : w₁.rangeAt b o cs := fun j v hv => by
  rw [World.cell?_of_block (w := w) hb]; exact h j v hv

theorem SK.rely (hs : O bs) (hc : Q bc) (ha : 0 < n → Q ba) (hl : ms.length = n) (h : SK Wg Cm bs bc ba n cap a0 ms w) (r : RO lk.tWg Wg Q O w w₁) : SK Wg Cm bs bc ba n cap a0 ms w₁ := by
  refine ⟨?_, ?_, fun j x hx => ?_, r.live h.live⟩
  · rw [r.block bs (.inl hs)]; exact h.box
  · rw [r.block bc (.inr hc)]; exact h.chn
  · have : 0 < n := by rw [← hl]; have := (List.getElem?_eq_some_iff.1 hx).1; omega
    exact rangeAt_block (h.el j x hx) (r.block ba (.inr (ha this)))
/-- .. behind a step of its own that leaves all blocks but new ones and b. -/
theorem SK.own {b : Nat} (h : SK Wg Cm bs bc ba n cap a0 ms w) (hb : ∀ k, k < w.heap.size → k ≠ b → w₁.heap[k]? = w.heap[k]?) (hbs : b ≠ bs) (hbc : b ≠ bc) (hba : b ≠ ba) (hbw : b ≠ Wg) : SK Wg Cm bs bc ba n cap a0 ms w₁ := by
  obtain ⟨x, hx⟩ := h.box
  refine ⟨⟨x, ?_⟩, ?_, fun j y hy => ?_, ?_⟩
  · rw [hb _ (heap_lt hx) (Ne.symm hbs)]; exact hx
  · rw [hb _ (heap_lt h.chn) (Ne.symm hbc)]; exact h.chn
  · have h0 : w.cell? ⟨ba, j * 4 + 0, none⟩ = some (.int .i64 y.t) := h.el j y hy 0 _ rfl
    exact rangeAt_block (h.el j y hy) (hb _ (World.block_lt_of_cell? w _ h0) (Ne.symm hba))
  · obtain ⟨st, sm, hw⟩ := h.live
    have hw' : w.heap[Wg]? = some (wgBlock lk.tWg st sm) := hw
    exact ⟨st, sm, (hb _ (heap_lt hw') (Ne.symm hbw)).trans hw'⟩

theorem SK.lt (h : SK Wg Cm bs bc ba n cap a0 ms w) : bs < w.heap.size ∧ bc < w.heap.size ∧ Wg < w.heap.size ∧ (∀ (j : Nat) (x : M4), ms[j]? = some x → ba < w.heap.size) := by
  obtain ⟨x, hx⟩ := h.box
  obtain ⟨st, sm, hw⟩ := h.live
  have hw' : w.heap[Wg]? = some (wgBlock lk.tWg st sm) := hw
  refine ⟨heap_lt hx, heap_lt h.chn, heap_lt hw', fun j y hy => ?_⟩
  have h0 : w.cell? ⟨ba, j * 4 + 0, none⟩ = some (.int .i64 y.t) := h.el j y hy 0 _ rfl
  exact World.block_lt_of_cell? w _ h0

/-- At the loop's head, j sent. -/
def AnchS (Wg bs bc n cap : Nat) (a0 : Option Addr) (j : Nat) (g : Goroutine) : Prop :=
  ∃ T : Array Value, g = G (bS.at ⟨T, [dcall lk.done #[.pointer (some ⟨Wg, 0, none⟩)]]⟩ [.code loopS, .inLoop loopS, .inBlock 0]) [bot] ∧ T.size = 15 ∧ T[2]? = some (.pointer (some ⟨bc, 0, none⟩)) ∧
    T[6]? = some (.slice a0 n cap) ∧ T[7]? = some (.int .i64 n) ∧ T[8]? = some (.int .i64 j)

/-- Its way out, once Done has left. -/
theorem quitsS (T : Array Value) : QuitsD Tryz.prog 2 0 (G { bS.at ⟨T, []⟩ [] with mode := .returning } [bot]) := by
  refine QuitsD.ctl (g' := G bot []) rfl (fun w => ?_) ?_
  · simp [G, stepG, unwind, doReturn, results, Frame.at, bS, baseD, bot, Tryz.func28, Tryz.f28, seen, GStep.after, goexitEntry]
  refine QuitsD.ctl (g' := { G bot [] with status := .finished }) rfl (fun w => ?_) ⟨rfl, rfl⟩
  simp [G, stepG, unwind, bot, goexitEntry, Frame.catches]
  rfl

/-- 'Snd' with its number of steps. -/
def SndM (Wg Cm : Nat) (Q : Nat → Prop) (m : Nat) : List Value → (Nat → Prop) → Goroutine → World → Prop
  | [] => fun O g w => GoesO Tryz.prog false (RO lk.tWg Wg Q) Q (fun _ g w => SR0 Tryz.prog lk.tWg Wg g w) m O g w
  | v :: vs => fun O g w => GoesO Tryz.prog false (RO lk.tWg Wg Q) Q (AtSnd Tryz.prog lk.tWg Wg Cm Q v (Snd Tryz.prog lk.tWg Wg Cm Q vs)) m O g w
theorem SndM.snd {m : Nat} : ∀ {vs : List Value} {g : Goroutine}, SndM Wg Cm Q m vs O g w → Snd Tryz.prog lk.tWg Wg Cm Q vs O g w
  | [], _, h => ⟨m, h⟩
  | _ :: _, _, h => ⟨m, h⟩
theorem SndM.of_goes {m m' : Nat} : ∀ {vs : List Value} {g : Goroutine}, Goes Tryz.prog false (RO lk.tWg Wg Q O) DC0 (fun g w => SndM Wg Cm Q m vs O g w) m' g w → SndM Wg Cm Q (m + m') vs O g w
  | [], _, h => GoesO.of_goes roRf (fun _ _ x => x) h
  | _ :: _, _, h => GoesO.of_goes roRf (fun _ _ x => x) h

set_option maxRecDepth 100000 in
set_option maxHeartbeats 4000000 in
/-- FROM THE LOOP's HEAD. -/
theorem sendsFrom (hn : n ≤ 9223372036854775807) (hl : ms.length = n) (h0 : 0 < n → a0 = some ⟨ba, 0, none⟩) (hQ : Q bc) (hQa : 0 < n → Q ba) (hQW : ¬ Q Wg) :
    ∀ (r j : Nat), j + r = n → ∃ f, ∀ (O : Nat → Prop) (g : Goroutine) (w : World), O bs → AnchS Wg bs bc n cap a0 j g → SK Wg Cm bs bc ba n cap a0 ms w →
      SndM Wg Cm Q f ((ms.drop j).map M4.val) O g w := by
  intro r
  induction r with
  | zero =>
    intro j hj
    obtain rfl : j = n := by omega
    refine ⟨0 + 60, fun O g w hO ⟨T, hg, hT, t2, t6, t7, t8⟩ hF => ?_⟩
    subst hg
    obtain ⟨v0, v1, v2, v3, v4, v5, v6, v7, v8, v9, v10, v11, v12, v13, v14, rfl⟩ := array15 T hT
    simp only [List.getElem?_toArray, List.getElem?_cons_succ, List.getElem?_cons_zero, Option.some.injEq] at t2 t6 t7 t8
    subst t2 t6 t7 t8
    have hd : ms.drop j = [] := List.drop_eq_nil_of_le (by omega)
    rw [hd]
    have rl : ∀ {w w₁ : World}, SK Wg Cm bs bc ba j cap a0 ms w → RO lk.tWg Wg Q O w w₁ → SK Wg Cm bs bc ba j cap a0 ms w₁ := fun h r => h.rely hO hQ hQa hl r
    refine goesO_of_goes0 (R' := RO lk.tWg Wg Q O) (fun _ _ x => x) ?_
    simp only [loopS, bodyS, Tryz.f28, Option.getD_some]
    have hnl : ¬ ((j : Int) < (j : Int)) := by omega
    u_c stepG_seq rl hF
    u_reg rl hF
    u_op rl hF
    u_c stepG_region_end rl hF
    u_c stepG_seq rl hF
    u_cond false rl hF
    u_exit rl hF
    u_c stepG_end rl hF
    g_unwB rl hF lib.f_done (nm_done lk) Tryz.f29
    have hA := @doneF Tryz.prog lk Wg lib
    simp only [body_done, doneFn, Option.getD_some] at hA
    exact goes_weaken (fun _ _ x => Rl.less x fun b hb => hb.elim) (Goes.mono (hA rfl (quitsS _) _ hF.live) (by omega))
  | succ r ih =>
    intro j hj
    obtain ⟨f₁, h₁⟩ := ih (j + 1) (by omega)
    obtain ⟨x, hx⟩ : ∃ x, ms[j]? = some x := ⟨_, List.getElem?_eq_getElem (by omega)⟩
    have hd : ms.drop j = x :: ms.drop (j + 1) := by rw [List.drop_eq_getElem_cons (by omega)]; congr 1; exact (List.getElem?_eq_some_iff.1 hx).2
    have hjn : j < n := by omega
    obtain rfl := h0 (by omega)
    refine ⟨20 + 30, fun O g w hO ⟨T, hg, hT, t2, t6, t7, t8⟩ hF => ?_⟩
    subst hg
    obtain ⟨v0, v1, v2, v3, v4, v5, v6, v7, v8, v9, v10, v11, v12, v13, v14, rfl⟩ := array15 T hT
    simp only [List.getElem?_toArray, List.getElem?_cons_succ, List.getElem?_cons_zero, Option.some.injEq] at t2 t6 t7 t8
    subst t2 t6 t7 t8
    rw [hd]
    have hqa := hQa (by omega)
    have rl : ∀ {w w₁ : World}, SK Wg Cm bs bc ba n cap (some ⟨ba, 0, none⟩) ms w → RO lk.tWg Wg Q O w w₁ → SK Wg Cm bs bc ba n cap (some ⟨ba, 0, none⟩) ms w₁ := fun h r => h.rely hO hQ hQa hl r
    refine GoesO.of_goes (m := 30) roRf (fun _ _ x => x) ?_
    simp only [loopS, bodyS, Tryz.f28, Option.getD_some]
    have hlt : (j : Int) < (n : Int) := by omega
    have hj0 : (0 : Int) ≤ (j : Int) := by omega
    u_c stepG_seq rl hF
    u_reg rl hF
    u_op rl hF
    u_c stepG_region_end rl hF
    u_c stepG_seq rl hF
    u_cond true rl hF
    u_c stepG_skip rl hF
    u_c stepG_seq rl hF
    u_c stepG_block rl hF
    u_c stepG_seq rl hF
    u_reg rl hF
    u_op rl hF
    refine Goes.stop (fun w₁ h₁ => ?_)
    replace hF := rl hF h₁
    clear h₁
    -- the message is read
    refine GoesO.mem (n := 19) rfl rfl (by decide) (fun w₁ h₁ => ?_)
    replace hF := rl hF h₁
    clear h₁
    refine ⟨_, _, _, _, yld_load rfl rfl (hF.el j x hx) (Tryz.isAgg50 _) (Tryz.sizeOf50 _) (evAgg _) (evSize _), dox_read (.inr hqa), ?_⟩
    walk_nrm
    -- its box is made
    refine GoesO.mem (n := 18) rfl rfl (by decide) (fun w₁ h₁ => ?_)
    replace hF := rl hF h₁
    clear h₁
    refine ⟨_, _, _, _, yld_alloc rfl (Tryz.zeroValue50 _) (evZero _), dox_new _, ?_⟩
    obtain ⟨l1, l2, l3, l4⟩ := hF.lt
    have l5 := l4 j x hx
    obtain ⟨N, hN⟩ : ∃ N, w₁.heap.size = N := ⟨_, rfl⟩
    have hA := heap_alloc_new w₁ (.cells (Value.agg #[.int .i64 0, .string { data := #[] }, .int .i64 0, .string { data := #[] }]).cells 50)
    replace hF := hF.own (b := N) (w₁ := w₁.alloc (.cells (Value.agg #[.int .i64 0, .string { data := #[] }, .int .i64 0, .string { data := #[] }]).cells 50)) (fun k hk _ => heap_alloc_old w₁ _ k hk) (by omega) (by omega) (by omega) (by omega)
    have n1 : N ≠ bs := by omega
    have n2 : N ≠ bc := by omega
    have n3 : N ≠ Wg := by omega
    have n4 : N ≠ ba := by omega
    rw [hN] at hA ⊢
    clear l1 l2 l3 l4 l5 hN
    replace hF := And.intro hF hA
    clear hA
    generalize hw : w₁.alloc _ = w₂ at hF ⊢
    clear hw w₁
    have rl2 : ∀ {C : Array Value} {w w₁ : World}, (SK Wg Cm bs bc ba n cap (some ⟨ba, 0, none⟩) ms w ∧ w.heap[N]? = some (.cells C 50 (0, 0))) → RO lk.tWg Wg Q (fun b => O b ∨ b = N) w w₁ → SK Wg Cm bs bc ba n cap (some ⟨ba, 0, none⟩) ms w₁ ∧ w₁.heap[N]? = some (.cells C 50 (0, 0)) :=
      fun h r => ⟨h.1.rely (.inl hO) hQ hQa hl r, (r.block N (.inl (.inr rfl))).trans h.2⟩
    walk_nrm
    -- it is filled
    refine GoesO.mem (n := 17) rfl rfl (by decide) (fun w₁ h₁ => ?_)
    replace hF := rl2 hF h₁
    clear h₁
    refine ⟨_, _, _, _, yld_store (v := .agg x.cells.toArray) rfl rfl rfl hF.2 (Tryz.sizeOf50 _) (evSize _) rfl (by simp [Value.cells, M4.cells, Value.oneCell']), dox_row (.inr rfl) _, ?_⟩
    have hA := setRow_heap w₁ N _ (Value.agg x.cells.toArray).cells _ _ hF.2
    replace hF := And.intro (hF.1.own (b := N) (w₁ := w₁.setRow N (Value.agg x.cells.toArray).cells) (fun k _ hk => setRow_other w₁ N k _ hk) n1 n2 n4 n3) hA
    clear hA
    generalize hw : w₁.setRow N _ = w₂ at hF ⊢
    clear hw w₁
    refine GoesO.of_goes (n := 12) (m := 5) roRf (fun _ _ x => x) ?_
    walk_nrm
    u_c stepG_region_end rl2 hF
    u_reg rl2 hF
    refine Goes.stop (fun w₁ h₁ => ?_)
    replace hF := rl2 hF h₁
    clear h₁
    -- the channel is read, and the box
    refine GoesO.mem (n := 11) rfl rfl (by decide) (fun w₁ h₁ => ?_)
    replace hF := rl2 hF h₁
    clear h₁
    refine ⟨_, _, _, _, yld_load1 (ad := ⟨bc, 0, none⟩) (v := .chan (some Cm)) rfl rfl (by rw [cell_of_row _ _ _ _ _ _ hF.1.chn]; rfl) (Tryz.isAgg82 _) (evAgg _), dox_read (.inr hQ), ?_⟩
    walk_nrm
    refine GoesO.mem (n := 10) rfl rfl (by decide) (fun w₁ h₁ => ?_)
    replace hF := rl2 hF h₁
    clear h₁
    refine ⟨_, _, _, _, yld_load (b := N) (off := 0) (cs := x.cells) rfl rfl (fun i v hv => by rw [cell_of_row _ _ _ _ _ _ hF.2]; simpa [Value.cells] using hv) (Tryz.isAgg50 _) (Tryz.sizeOf50 _) (evAgg _) (evSize _), dox_read (.inl (.inr rfl)), ?_⟩
    walk_nrm
    -- it is sent
    refine GoesO.stop (fun w₁ h₁ => ?_)
    replace hF := rl2 hF h₁
    clear h₁
    refine atSnd_of rfl rfl (by decide) rfl rfl rfl (fun w₁ h₁ => ?_)
    replace hF := rl2 hF h₁
    clear h₁
    refine SndM.snd (m := f₁ + 20) (SndM.of_goes ?_)
    have hi64 : IntKind.i64.wrap ((j : Int) + 1) = ((j + 1 : Nat) : Int) := by rw [IntKind.wrap_i64]; omega
    walk_nrm
    u_c stepG_region_end rl2 hF
    u_c stepG_inBlock rl2 hF
    u_reg rl2 hF
    u_op rl2 hF
    u_op rl2 hF
    u_c stepG_region_end rl2 hF
    u_c stepG_inLoop rl2 hF
    exact Goes.stop fun w₃ h₃ => h₁ _ _ _ (.inl hO) ⟨_, rfl, by simp, by simp, by simp, by simp, by simp [hi64]⟩ (rl2 hF h₃).1
/-- ITS FIRST STEP: it enters the function literal. -/
theorem bornS_step (w : World) : stepG Tryz.prog false (born Tryz.prog (callS Wg bs bc)) w =
    .go (G (bS.at ⟨#[.pointer (some ⟨Wg, 0, none⟩), .pointer (some ⟨bs, 0, none⟩), .pointer (some ⟨bc, 0, none⟩), undef, undef, undef, undef, undef, undef, undef, undef, undef, undef, undef, undef], []⟩ [.code bodyS]) [bot]) w #[] := by
  simp [born, callS, stepG, unwind, callDeferred, invoke, callFunc, Tryz.func28, Tryz.f28, seen, GStep.after, G, Frame.enter, Frame.at, bS, baseD, bot, bodyS]

set_option maxRecDepth 100000 in
set_option maxHeartbeats 4000000 in
/-- A SENDER's WHOLE WORK, FROM ITS BIRTH. -/
theorem sendsAll (hn : n ≤ 9223372036854775807) (hl : ms.length = n) (h0 : 0 < n → a0 = some ⟨ba, 0, none⟩) (hQ : Q bc) (hQa : 0 < n → Q ba) (hO : O bs) (w : World) (hF : SK Wg Cm bs bc ba n cap a0 ms w) (hQW : ¬ Q Wg) :
    Snd Tryz.prog lk.tWg Wg Cm Q (ms.map M4.val) O (born Tryz.prog (callS Wg bs bc)) w := by
  obtain ⟨f, hf⟩ := sendsFrom (Cm := Cm) (bs := bs) (cap := cap) hn hl h0 hQ hQa hQW n 0 (by omega)
  rw [List.drop_zero] at hf
  have rl : ∀ {w w₁ : World}, SK Wg Cm bs bc ba n cap a0 ms w → RO lk.tWg Wg Q O w w₁ → SK Wg Cm bs bc ba n cap a0 ms w₁ := fun h r => h.rely hO hQ hQa hl r
  have key : GoesO Tryz.prog false (RO lk.tWg Wg Q) Q (fun O g w => SndM Wg Cm Q f (ms.map M4.val) O g w) (0 + 10 + 1 + 20) O (born Tryz.prog (callS Wg bs bc)) w := by
    refine GoesO.of_goes (m := 20) roRf (fun _ _ x => x) ?_
    refine Goes.step rfl fun w₁ r₁ => ?_
    rw [bornS_step]
    refine ⟨⟨rfl, rfl⟩, ?_⟩
    replace hF := rl hF r₁
    clear r₁
    simp only [bodyS, Tryz.f28, Option.getD_some]
    u_c stepG_seq rl hF
    u_reg rl hF
    u_defer rl hF
    u_c stepG_region_end rl hF
    u_c stepG_seq rl hF
    u_reg rl hF
    u_op rl hF
    refine Goes.stop (fun w₁ h₁ => ?_)
    replace hF := rl hF h₁
    clear h₁
    refine GoesO.mem (n := 0 + 10) rfl rfl (by decide) (fun w₁ h₁ => ?_)
    replace hF := rl hF h₁
    clear h₁
    refine ⟨_, _, _, _, yld_load1 (ad := ⟨bs, 1, none⟩) (v := .slice a0 n cap) rfl rfl (by obtain ⟨x, hx⟩ := hF.box; rw [cell_of_row _ _ _ _ _ _ hx]; rfl) (Tryz.isAgg28 _) (evAgg _), dox_read (.inl hO), ?_⟩
    walk_nrm
    refine GoesO.of_goes (n := 0) (m := 10) roRf (fun _ _ x => x) ?_
    u_op rl hF
    u_op rl hF
    u_c stepG_region_end rl hF
    u_c stepG_block rl hF
    u_c stepG_loop rl hF
    exact Goes.stop fun w₁ h₁ => GoesO.stop fun w₂ h₂ => hf _ _ _ hO ⟨_, rfl, by simp, by simp, by simp, by simp, by simp⟩ (rl (rl hF h₁) h₂)
  cases hms : ms.map M4.val with
  | nil => rw [hms] at key; exact ⟨_, GoesO.bind roRf key⟩
  | cons v vs => rw [hms] at key; exact ⟨_, GoesO.bind roRf key⟩
end
end Go.Proofs.YtmmjlngbiilagaaGreatDoor
