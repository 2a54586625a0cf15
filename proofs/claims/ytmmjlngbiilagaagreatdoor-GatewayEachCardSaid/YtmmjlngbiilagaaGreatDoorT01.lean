/-
  THE TRACE OF A FAN-IN, PLAIN LAW: a starter (goroutine 0), goroutines that only leave (1 .. L) and new ones (L + 1 .. n - 1), each touching only blocks of its own, blocks that all may read, and the library's own synchronising cells: no data race, whatever the order of the operations.
  Conditions: each operation is within what 'OkT' allows under the map of blocks to classes.
-/
import Derived.Conc.CrowdRun
import Derived.Conc.CrowdComm
import Derived.Conc.Beside

namespace Go.Proofs.YtmmjlngbiilagaaGreatDoor
open Go Go.Conc
open Go.ConcN (RelBy RelBy.app RelBy.appOther RelBy.appOwn RelBy.new PermW fork_knows Deaf_absent)

/-- Which goroutine may touch a block: its owner; whoever may read; nobody plainly; nobody at all. -/
inductive Cls where
  | own (g : Nat)
  | ro (k : Nat)
  | sh
  | dead

def blk : Loc → Option Nat
  | .cell a => some a.block
  | .obj r => some r
  | _ => none

/-- What one touch of goroutine g's may be. -/
def OkX (cl : Nat → Cls) (Wg L g : Nat) (x : Touch) : Prop :=
  ∃ b, blk x.loc = some b ∧ (L < g → x.kind = .atomic → b = Wg) ∧
    (cl b = .own g ∨ (x.write = false ∧ ∃ k, cl b = .ro k ∧ (g = 0 ∨ k ≤ g)) ∨ (cl b = .sh ∧ x.kind ≠ .plain ∧ (x.kind = .said → g = 0)))

def OkT (cl : Nat → Cls) (Wg L g : Nat) (act : MemAct) : Prop := ∀ x, act.touch? = some x → OkX cl Wg L g x

structure TI (Shun : Loc → Prop) (cl : Nat → Cls) (Wg L n B : Nat) (t : Trace) : Prop where
  clean : ∀ said, ¬ Race said t
  own : ∀ i x b g, touchAt t i = some x → blk x.loc = some b → cl b = .own g → Knows t g i
  ro0 : ∀ i x b k, touchAt t i = some x → blk x.loc = some b → cl b = .ro k → x.write = true → Knows t 0 i
  ro : ∀ i x b k g, touchAt t i = some x → blk x.loc = some b → cl b = .ro k → x.write = true → k ≤ g → L < g → g < n → Knows t g i
  sh : ∀ i x b, touchAt t i = some x → blk x.loc = some b → cl b = .sh → x.kind ≠ .plain ∧ (x.kind = .said → t.g? i = some 0)
  low : ∀ op ∈ t, op.act.low B
  gs : ∀ op ∈ t, op.g < n
  rest : ∀ i x, touchAt t i = some x → x.loc.isMemory = true → Knows t 0 i ∨ (Shun x.loc ∧ x.kind = .atomic) ∨ ∃ g, t.g? i = some g ∧ L < g
  atom : ∀ i x g, touchAt t i = some x → t.g? i = some g → L < g → x.kind = .atomic → blk x.loc = some Wg
  over : ∀ i g, t.g? i = some g → g ≠ 0 → g ≤ L → t.counts i → ∃ j, t.g? j = some 0 ∧ HappensBefore t i j

section
variable {Shun : Loc → Prop} {cl cl' : Nat → Cls} {Wg L n B B' g : Nat} {t u : Trace}

theorem g?_of {t : Trace} {i : Nat} {op : MemOp} (h : t[i]? = some op) : t.g? i = some op.g := by simp [Trace.g?, h]

theorem lt_of_g? {t : Trace} {i g : Nat} (h : t.g? i = some g) : i < t.size := by
  unfold Trace.g? at h
  obtain ⟨z, hz, _⟩ := Option.map_eq_some_iff.1 h
  exact lt_size_of_getElem? hz

theorem blk_mem {l : Loc} {b : Nat} (h : blk l = some b) : l.isMemory = true := by
  cases l <;> simp [blk, Loc.isMemory] at h ⊢

/-- A touch of the longer trace stood before, or is one of the new operations. -/
theorem touch_cases {i : Nat} {x : Touch} (h : touchAt (t ++ u) i = some x) :
    (i < t.size ∧ touchAt t i = some x) ∨ (t.size ≤ i ∧ ∃ op, (t ++ u)[i]? = some op ∧ op ∈ u ∧ op.act.touch? = some x) := by
  obtain ⟨op, ho, hx⟩ := touch_of h
  rcases getElem?_append_cases ho with ⟨hi, ho'⟩ | ⟨hi, hou⟩
  · exact .inl ⟨hi, by rw [touchAt_of ho']; exact hx⟩
  · exact .inr ⟨hi, op, ho, hou, hx⟩

theorem low_blk {act : MemAct} {x : Touch} {b : Nat} (h : act.low B) (hx : act.touch? = some x) (hb : blk x.loc = some b) : b < B := by
  cases act with
  | access e =>
    simp only [MemAct.touch?, Option.some.injEq] at hx
    subst hx
    simp only at hb
    cases hl : e.loc <;> simp only [hl, blk, Option.some.injEq, reduceCtorEq] at hb
    · subst hb; simpa [MemAct.low, hl, Loc.low] using h
    · subst hb; simpa [MemAct.low, hl, Loc.low] using h
  | mark m =>
    cases m <;> simp only [MemAct.touch?, Option.some.injEq, reduceCtorEq] at hx
    · subst hx; simp only [blk, Option.some.injEq] at hb; subst hb; exact h
    · subst hx; simp only [blk, Option.some.injEq] at hb; subst hb; exact h
  | _ => simp [MemAct.touch?] at hx

theorem TI.lt_of_touch (h : TI Shun cl Wg L n B t) {i : Nat} {x : Touch} {b : Nat} (hx : touchAt t i = some x) (hb : blk x.loc = some b) : b < B := by
  obtain ⟨op, ho, hx'⟩ := touch_of hx
  exact low_blk (h.low op (mem_of_getElem? ho)) hx' hb

/-- The classes of blocks that nobody has touched are free to choose; the bound may rise. -/
theorem TI.recl (h : TI Shun cl Wg L n B t) (hB : B ≤ B') (hc : ∀ b, b < B → cl' b = cl b) : TI Shun cl' Wg L n B' t := by
  refine ⟨h.clean, fun i x b g hx hb hg => h.own i x b g hx hb (by rw [← hc b (h.lt_of_touch hx hb)]; exact hg), fun i x b k hx hb hk => h.ro0 i x b k hx hb (by rw [← hc b (h.lt_of_touch hx hb)]; exact hk),
    fun i x b k g hx hb hk => h.ro i x b k g hx hb (by rw [← hc b (h.lt_of_touch hx hb)]; exact hk), fun i x b hx hb hk => h.sh i x b hx hb (by rw [← hc b (h.lt_of_touch hx hb)]; exact hk),
    fun op hop => MemAct.low_mono hB (h.low op hop), h.gs, h.rest, h.atom, h.over⟩

/-- OPERATIONS OF ONE GOROUTINE (the starter, or a new one), each within what is allowed. -/
theorem TI.app (h : TI Shun cl Wg L n B t) (hg : g = 0 ∨ L < g) (hn : g < n) (hu : ∀ op ∈ u, op.g = g) (hok : ∀ op ∈ u, OkT cl Wg L g op.act) (hl : ∀ op ∈ u, op.act.low B) : TI Shun cl Wg L n B (t ++ u) := by
  have kn : ∀ {i : Nat} {op : MemOp}, (t ++ u)[i]? = some op → op ∈ u → Knows (t ++ u) g i := fun {i op} ho hop => by
    have := knows_own ho
    rwa [hu op hop] at this
  refine ⟨fun said => noRace_append (h.clean said) hu fun i a ha op hop b hb hc => ?_, fun i x b g' hx hb hcl => ?_, fun i x b k hx hb hcl hw => ?_, fun i x b k g' hx hb hcl hw hk hL hgn => ?_, fun i x b hx hb hcl => ?_, fun op hop => (Array.mem_append.1 hop).elim (h.low op) (hl op),
    fun op hop => (Array.mem_append.1 hop).elim (h.gs op) (fun hop => by rw [hu op hop]; exact hn), fun i x hx hm => ?_, fun i x g' hx hg' hL hk => ?_, fun i g' hg' h0 hL hc => ?_⟩
  · obtain ⟨bb, hbb, _, hcase⟩ := hok op hop b hb
    have hab : blk a.loc = some bb := by rw [hc.1]; exact hbb
    rcases hcase with ho | ⟨hw, k, hk, hgk⟩ | ⟨hs, hkd, hsd⟩
    · exact h.own i a bb g ha hab ho
    · have haw : a.write = true := hc.2.2.1.resolve_right (by simp [hw])
      rcases Nat.eq_zero_or_pos g with rfl | hpos
      · exact h.ro0 i a bb k ha hab hk haw
      · exact h.ro i a bb k g ha hab hk haw (hgk.resolve_left (by omega)) (hg.resolve_left (by omega)) hn
    · obtain ⟨ha1, ha2⟩ := h.sh i a bb ha hab hs
      rcases hc.2.2.2 with h1 | h1 | ⟨_, h1, h2⟩
      · exact absurd h1 ha1
      · exact absurd h1 hkd
      · obtain ⟨z, hz, _⟩ := touch_of ha
        have e1 := ha2 h1
        have e2 := hsd h2
        rw [g?_of hz] at e1
        have := knows_own hz
        rw [Option.some.inj e1] at this
        rw [e2]; exact this
  · rcases touch_cases hx with ⟨_, hx'⟩ | ⟨_, op, ho, hop, hx'⟩
    · exact (h.own i x b g' hx' hb hcl).app u
    · obtain ⟨bb, hbb, _, hcase⟩ := hok op hop x hx'
      rw [hb] at hbb; cases hbb
      rcases hcase with ho' | ⟨_, k, hk, _⟩ | ⟨hs, _⟩
      · rw [hcl] at ho'; cases ho'; exact kn ho hop
      · rw [hcl] at hk; cases hk
      · rw [hcl] at hs; cases hs
  · rcases touch_cases hx with ⟨_, hx'⟩ | ⟨_, op, ho, hop, hx'⟩
    · exact (h.ro0 i x b k hx' hb hcl hw).app u
    · obtain ⟨bb, hbb, _, hcase⟩ := hok op hop x hx'
      rw [hb] at hbb; cases hbb
      rcases hcase with ho' | ⟨hw', _⟩ | ⟨hs, _⟩
      · rw [hcl] at ho'; cases ho'
      · rw [hw] at hw'; cases hw'
      · rw [hcl] at hs; cases hs
  · rcases touch_cases hx with ⟨_, hx'⟩ | ⟨_, op, ho, hop, hx'⟩
    · exact (h.ro i x b k g' hx' hb hcl hw hk hL hgn).app u
    · obtain ⟨bb, hbb, _, hcase⟩ := hok op hop x hx'
      rw [hb] at hbb; cases hbb
      rcases hcase with ho' | ⟨hw', _⟩ | ⟨hs, _⟩
      · rw [hcl] at ho'; cases ho'
      · rw [hw] at hw'; cases hw'
      · rw [hcl] at hs; cases hs
  · rcases touch_cases hx with ⟨hi, hx'⟩ | ⟨_, op, ho, hop, hx'⟩
    · obtain ⟨h1, h2⟩ := h.sh i x b hx' hb hcl
      exact ⟨h1, fun e => by rw [g?_old hi]; exact h2 e⟩
    · obtain ⟨bb, hbb, _, hcase⟩ := hok op hop x hx'
      rw [hb] at hbb; cases hbb
      rcases hcase with ho' | ⟨_, k, hk, _⟩ | ⟨_, h1, h2⟩
      · rw [hcl] at ho'; cases ho'
      · rw [hcl] at hk; cases hk
      · exact ⟨h1, fun e => by rw [g?_of ho, hu op hop, h2 e]⟩
  · rcases touch_cases hx with ⟨hi, hx'⟩ | ⟨_, op, ho, hop, hx'⟩
    · rcases h.rest i x hx' hm with h1 | h1 | ⟨g', h1, h2⟩
      · exact .inl (h1.app u)
      · exact .inr (.inl h1)
      · exact .inr (.inr ⟨g', by rw [g?_old hi]; exact h1, h2⟩)
    · rcases hg with rfl | hg
      · exact .inl (kn ho hop)
      · exact .inr (.inr ⟨g, by rw [g?_of ho, hu op hop], hg⟩)
  · rcases touch_cases hx with ⟨hi, hx'⟩ | ⟨_, op, ho, hop, hx'⟩
    · exact h.atom i x g' hx' (by rw [← g?_old (u := u) hi]; exact hg') hL hk
    · rw [g?_of ho, hu op hop] at hg'
      cases hg'
      obtain ⟨bb, hbb, hat, _⟩ := hok op hop x hx'
      rw [hbb, hat hL hk]
  · rcases Nat.lt_or_ge i t.size with hi | hi
    · obtain ⟨j, hj, hb⟩ := h.over i g' (by rw [← g?_old (u := u) hi]; exact hg') h0 hL ((counts_old hi).1 hc)
      exact ⟨j, by rw [g?_old (lt_of_g? hj)]; exact hj, hb_app u hb⟩
    · obtain ⟨op, ho, e⟩ := Option.map_eq_some_iff.1 hg'
      rcases getElem?_append_cases ho with ⟨hlt, _⟩ | ⟨_, hou⟩
      · omega
      · have := hu op hou
        omega

/-- Operations that touch nothing, of any one goroutine that is there. -/
theorem TI.mute (h : TI Shun cl Wg L n B t) (hn : g < n) (hu : ∀ op ∈ u, op.g = g) (ht : ∀ op ∈ u, op.act.touch? = none) (hl : ∀ op ∈ u, op.act.low B) : TI Shun cl Wg L n B (t ++ u) := by
  have old : ∀ {i : Nat} {x : Touch}, touchAt (t ++ u) i = some x → i < t.size ∧ touchAt t i = some x := fun {i x} hx => by
    rcases touch_cases hx with h | ⟨_, op, _, hop, hx'⟩
    · exact h
    · rw [ht op hop] at hx'; cases hx'
  refine ⟨fun said => noRace_append (h.clean said) hu fun i a ha op hop b hb hc => (by rw [ht op hop] at hb; cases hb), fun i x b g' hx hb hcl => (h.own i x b g' (old hx).2 hb hcl).app u, fun i x b k hx hb hcl hw => (h.ro0 i x b k (old hx).2 hb hcl hw).app u,
    fun i x b k g' hx hb hcl hw hk hL hgn => (h.ro i x b k g' (old hx).2 hb hcl hw hk hL hgn).app u, fun i x b hx hb hcl => ?_, fun op hop => (Array.mem_append.1 hop).elim (h.low op) (hl op),
    fun op hop => (Array.mem_append.1 hop).elim (h.gs op) (fun hop => by rw [hu op hop]; exact hn), fun i x hx hm => ?_, fun i x g' hx hg' hL hk => ?_, fun i g' hg' h0 hL hc => ?_⟩
  · obtain ⟨hi, hx'⟩ := old hx
    obtain ⟨h1, h2⟩ := h.sh i x b hx' hb hcl
    exact ⟨h1, fun e => by rw [g?_old hi]; exact h2 e⟩
  · obtain ⟨hi, hx'⟩ := old hx
    rcases h.rest i x hx' hm with h1 | h1 | ⟨g', h1, h2⟩
    · exact .inl (h1.app u)
    · exact .inr (.inl h1)
    · exact .inr (.inr ⟨g', by rw [g?_old hi]; exact h1, h2⟩)
  · obtain ⟨hi, hx'⟩ := old hx
    exact h.atom i x g' hx' (by rw [← g?_old (u := u) hi]; exact hg') hL hk
  · have hi : i < t.size := by
      obtain ⟨x, hx, _⟩ := hc
      exact (old hx).1
    obtain ⟨j, hj, hb⟩ := h.over i g' (by rw [← g?_old (u := u) hi]; exact hg') h0 hL ((counts_old hi).1 hc)
    exact ⟨j, by rw [g?_old (lt_of_g? hj)]; exact hj, hb_app u hb⟩

/-- A go STATEMENT of the starter's: the child is number n; blocks of the starter's own may pass to it, or be opened to it for reading. -/
theorem TI.fork (h : TI Shun cl Wg L n B t) {x y : MemOp} (hx : x.g = 0 ∧ x.act = .go n) (hy : y.g = n ∧ y.act = .start) (h0 : Deaf t 0 = 0) (hnL : L < n) (hn0 : 0 < n)
    (hc : ∀ b, cl' b = cl b ∨ (cl b = .own 0 ∧ (cl' b = .own n ∨ ∃ k, n ≤ k ∧ cl' b = .ro k))) : TI Shun cl' Wg L (n + 1) B (t ++ #[x, y]) := by
  have hk : Deaf t n = 0 := Deaf_absent fun i op hi e => by have := h.gs op (mem_of_getElem? hi); omega
  have hnt : ∀ op ∈ (#[x, y] : Trace), op.act.touch? = none := by
    intro op hop
    simp only [List.mem_toArray, List.mem_cons, List.not_mem_nil, or_false] at hop
    rcases hop with rfl | rfl
    · rw [hx.2]; rfl
    · rw [hy.2]; rfl
  have old : ∀ {i : Nat} {z : Touch}, touchAt (t ++ #[x, y]) i = some z → i < t.size ∧ touchAt t i = some z := fun {i z} hz => by
    rcases touch_cases hz with h | ⟨_, op, _, hop, hx'⟩
    · exact h
    · rw [hnt op hop] at hx'; cases hx'
  have fk : ∀ {i : Nat}, Knows t 0 i → Knows (t ++ #[x, y]) n i := fun hk0 => fork_knows hx hy h0 hk hk0
  refine ⟨fun said => ?_, fun i z b g' hz hb hcl => ?_, fun i z b k hz hb hcl hw => ?_, fun i z b k g' hz hb hcl hw hkg hL hgn => ?_, fun i z b hz hb hcl => ?_, fun op hop => (Array.mem_append.1 hop).elim (h.low op) (fun hop => ?_),
    fun op hop => (Array.mem_append.1 hop).elim (fun hop => Nat.lt_succ_of_lt (h.gs op hop)) (fun hop => ?_), fun i z hz hm => ?_, fun i z g' hz hg' hL hk => ?_, fun i g' hg' hg0 hL hcn => ?_⟩
  · have e : t ++ #[x, y] = (t ++ #[x]) ++ #[y] := by apply Array.ext'; simp
    rw [e]
    refine noRace_append (g := n) (noRace_append (g := 0) (h.clean said) (fun op hop => by simp at hop; rw [hop]; exact hx.1) (fun i a _ op hop b hb _ => ?_)) (fun op hop => by simp at hop; rw [hop]; exact hy.1) (fun i a _ op hop b hb _ => ?_)
    · rw [hnt op (by simp at hop ⊢; exact .inl hop)] at hb; cases hb
    · rw [hnt op (by simp at hop ⊢; exact .inr hop)] at hb; cases hb
  · obtain ⟨_, hz'⟩ := old hz
    rcases hc b with e | ⟨e0, e | ⟨k, _, e⟩⟩
    · rw [e] at hcl; exact (h.own i z b g' hz' hb hcl).app _
    · rw [e] at hcl; cases hcl; exact fk (h.own i z b 0 hz' hb e0)
    · rw [e] at hcl; cases hcl
  · obtain ⟨_, hz'⟩ := old hz
    rcases hc b with e | ⟨e0, e | ⟨k', _, e⟩⟩
    · rw [e] at hcl; exact (h.ro0 i z b k hz' hb hcl hw).app _
    · rw [e] at hcl; cases hcl
    · exact (h.own i z b 0 hz' hb e0).app _
  · obtain ⟨_, hz'⟩ := old hz
    rcases hc b with e | ⟨e0, e | ⟨k', hk', e⟩⟩
    · rw [e] at hcl
      rcases Nat.lt_or_ge g' n with hlt | hge
      · exact (h.ro i z b k g' hz' hb hcl hw hkg hL hlt).app _
      · obtain rfl : g' = n := by omega
        exact fk (h.ro0 i z b k hz' hb hcl hw)
    · rw [e] at hcl; cases hcl
    · rw [e] at hcl; cases hcl
      obtain rfl : g' = n := by omega
      exact fk (h.own i z b 0 hz' hb e0)
  · obtain ⟨hi, hz'⟩ := old hz
    rcases hc b with e | ⟨e0, e | ⟨k', hk', e⟩⟩
    · rw [e] at hcl
      obtain ⟨h1, h2⟩ := h.sh i z b hz' hb hcl
      exact ⟨h1, fun e => by rw [g?_old hi]; exact h2 e⟩
    · rw [e] at hcl; cases hcl
    · rw [e] at hcl; cases hcl
  · simp only [List.mem_toArray, List.mem_cons, List.not_mem_nil, or_false] at hop
    rcases hop with rfl | rfl
    · rw [hx.2]; trivial
    · rw [hy.2]; trivial
  · simp only [List.mem_toArray, List.mem_cons, List.not_mem_nil, or_false] at hop
    rcases hop with rfl | rfl
    · rw [hx.1]; omega
    · rw [hy.1]; omega
  · obtain ⟨hi, hz'⟩ := old hz
    rcases h.rest i z hz' hm with h1 | h1 | ⟨g', h1, h2⟩
    · exact .inl (h1.app _)
    · exact .inr (.inl h1)
    · exact .inr (.inr ⟨g', by rw [g?_old hi]; exact h1, h2⟩)
  · obtain ⟨hi, hz'⟩ := old hz
    exact h.atom i z g' hz' (by rw [← g?_old (u := #[x, y]) hi]; exact hg') hL hk
  · have hi : i < t.size := by
      obtain ⟨z, hz, _⟩ := hcn
      exact (old hz).1
    obtain ⟨j, hj, hb⟩ := h.over i g' (by rw [← g?_old (u := #[x, y]) hi]; exact hg') hg0 hL ((counts_old hi).1 hcn)
    exact ⟨j, by rw [g?_old (lt_of_g? hj)]; exact hj, hb_app _ hb⟩
end
end Go.Proofs.YtmmjlngbiilagaaGreatDoor

/-
  A FAN-IN (a starter, N senders over one channel, a collector, a WaitGroup): WHAT IS ASKED OF EACH GOROUTINE BY ITSELF: its script, step by step, in whatever company. No machine, no schedule here.
-/
namespace Go.Proofs.YtmmjlngbiilagaaGreatDoor
open Go Go.Conc
open Go.ConcR (KK wgBlock WgAt stA smA rd wr mk DC0)
open Go.ConcN (WgLive AtD4 WD)

/-- What the others, and the scheduler's draws, may do to the world: the blocks of S stand; the group's block stays one; memory may grow. -/
structure Rl (ty : TypeId) (Wg : Nat) (S : Nat → Prop) (w w₁ : World) : Prop where
  tape : w₁.tape = w.tape
  os : w₁.os = w.os
  output : w₁.output = w.output
  size : w.heap.size ≤ w₁.heap.size
  block : ∀ b, S b → w₁.heap[b]? = w.heap[b]?
  live : WgLive ty Wg w → WgLive ty Wg w₁

section
variable {ty : TypeId} {Wg : Nat} {S S' : Nat → Prop} {w w₁ w₂ : World}
theorem Rl.refl (w : World) : Rl ty Wg S w w := ⟨rfl, rfl, rfl, Nat.le_refl _, fun _ _ => rfl, id⟩
theorem Rl.trans (h : Rl ty Wg S w w₁) (h' : Rl ty Wg S w₁ w₂) : Rl ty Wg S w w₂ :=
  ⟨h'.tape.trans h.tape, h'.os.trans h.os, h'.output.trans h.output, Nat.le_trans h.size h'.size, fun b hb => (h'.block b hb).trans (h.block b hb), h'.live ∘ h.live⟩
theorem Rl.at (w : World) (d : Nat) : Rl ty Wg S w (w.at d) := ⟨rfl, rfl, rfl, Nat.le_refl _, fun _ _ => rfl, id⟩
theorem Rl.less (h : Rl ty Wg S w w₁) (hs : ∀ b, S' b → S b) : Rl ty Wg S' w w₁ := ⟨h.tape, h.os, h.output, h.size, fun b hb => h.block b (hs b hb), h.live⟩
theorem Rl.cell (h : Rl ty Wg S w w₁) {b : Nat} (hb : S b) (o : Nat) : w₁.cell? ⟨b, o, none⟩ = w.cell? ⟨b, o, none⟩ := by simp [World.cell?, h.block b hb]
end

/-- What a goroutine may list that owns O and reads Q. -/
def EvP (O Q : Nat → Prop) (e : Event) : Prop :=
  match e.loc with
  | .mark m => Neutral m
  | .cell a => e.sync = false ∧ (O a.block ∨ (Q a.block ∧ e.write = false))
  | .obj r => e.sync = false ∧ (O r ∨ (Q r ∧ e.write = false))
  | _ => False

/-- No view, no map is made; a number stands for a place in N. -/
def KindOk (N : Nat → Prop) : Obj → Prop
  | .view .. | .pending .. | .map .. | .loop .. => False
  | .number a _ => N a.block
  | _ => True
/-- From B on. -/
def Kd (N : Nat → Prop) (B : Nat) (w : World) : Prop := ∀ b o, B ≤ b → w.heap[b]? = some o → KindOk N o
section
variable {N : Nat → Prop} {B : Nat} {w w' : World}
theorem Kd.heap (h : Kd N B w) (e : w'.heap = w.heap) : Kd N B w' := by unfold Kd; rw [e]; exact h
theorem Kd.setCell (h : Kd N B w) (a : Addr) (v : Value) : Kd N B (w.setCell a v) := fun b o hb ho => by
  simp only [World.setCell, Array.getElem?_modify] at ho
  split at ho
  · obtain ⟨o', h', rfl⟩ := Option.map_eq_some_iff.1 ho
    have := h b o' hb (by rename_i e; exact e ▸ h')
    cases o' <;> exact this
  · exact h b o hb ho
theorem Kd.alloc (h : Kd N B w) {o : Obj} (ho : KindOk N o) : Kd N B (w.alloc o) := fun b o' hb ho' => by
  have e : (w.alloc o).heap = w.heap.push o := rfl
  rw [e, Array.getElem?_push] at ho'
  split at ho'
  · cases ho'; exact ho
  · exact h b o' hb ho'
theorem Kd.setChan (h : Kd N B w) (c cap : Nat) (buf : Array Value) (cl : Bool) (s r : Nat) (tm : Bool) : Kd N B (w.setChan c cap buf cl s r tm) := fun b o hb ho => by
  have e : (w.setChan c cap buf cl s r tm).heap = w.heap.setIfInBounds c (.chan cap buf cl s r tm) := rfl
  rw [e, Array.getElem?_setIfInBounds] at ho
  split at ho
  · split at ho
    · cases ho; exact trivial
    · cases ho
  · exact h b o hb ho
theorem kd_chan {c : Nat} {sh : Bool} (h : ∃ s r, w.heap[c]? = some (.chan 0 #[] sh s r false)) : ∀ o, w.heap[c]? = some o → KindOk N o := fun o ho => by
  obtain ⟨s, r, h⟩ := h
  rw [h] at ho
  cases ho
  exact trivial
theorem Kd.setRow (h : Kd N B w) (g : Nat) (cs : Array Value) : Kd N B (w.setRow g cs) := fun b o hb ho => by
  simp only [World.setRow, Array.getElem?_modify] at ho
  split at ho
  · obtain ⟨o', h', rfl⟩ := Option.map_eq_some_iff.1 ho
    have := h b o' hb (by rename_i e; exact e ▸ h')
    cases o' <;> exact this
  · exact h b o hb ho
/-- Where only one block turned, and that is none of them. -/
theorem Kd.one (h : Kd N B w) {c : Nat} (he : ∀ b, b ≠ c → w'.heap[b]? = w.heap[b]?) (hc : ∀ o, w'.heap[c]? = some o → KindOk N o) : Kd N B w' := fun b o hb ho => by
  by_cases e : b = c
  · exact hc o (e ▸ ho)
  · exact h b o hb ((he b e) ▸ ho)
end

/-- An own step: only blocks of its own turn; what is made is new. -/
structure DOx (O O' Q : Nat → Prop) (w w' : World) (es : Array Event) : Prop where
  tape : w'.tape = w.tape
  os : w'.os = w.os
  output : w'.output = w.output
  size : w.heap.size ≤ w'.heap.size
  block : ∀ b, b < w.heap.size → ¬ O b → w'.heap[b]? = w.heap[b]?
  keep : ∀ b, O' b → O b ∨ (w.heap.size ≤ b ∧ b < w'.heap.size)
  ev : ∀ e ∈ es, EvP (fun b => O b ∨ O' b) Q e
  kd : ∀ N B, (∀ b, O b → N b) → (∀ b, w.heap.size ≤ b → N b) → Kd N B w → Kd N B w'

/-- 'Goes' for a goroutine that makes blocks: what it owns grows (and it may drop what it does not need). -/
def GoesO (P : Program) (main : Bool) (R : (Nat → Prop) → World → World → Prop) (Q : Nat → Prop) (Stop : (Nat → Prop) → Goroutine → World → Prop) : Nat → (Nat → Prop) → Goroutine → World → Prop
  | 0, O, g, w => ∀ w₁, R O w w₁ → Stop O g w₁
  | n + 1, O, g, w => (∀ w₁, R O w w₁ → Stop O g w₁) ∨ (g.status = .running ∧ ∀ w₁, R O w w₁ → (stepG P main g w₁).goes fun g' w' es =>
      ∃ O', DOx O O' Q w₁ w' es ∧ GoesO P main R Q Stop n O' g' w')

section
variable {P : Program} {main : Bool} {R : (Nat → Prop) → World → World → Prop} {Q : Nat → Prop} {Stop : (Nat → Prop) → Goroutine → World → Prop} {n : Nat} {O : Nat → Prop} {g : Goroutine} {w w₁ : World}

theorem GoesO.stop (h : ∀ w₁, R O w w₁ → Stop O g w₁) : GoesO P main R Q Stop n O g w := by
  cases n with
  | zero => exact h
  | succ n => exact .inl h

theorem GoesO.rely (tr : ∀ O a b c, R O a b → R O b c → R O a c) (h : GoesO P main R Q Stop n O g w) (hr : R O w w₁) : GoesO P main R Q Stop n O g w₁ := by
  cases n with
  | zero => exact fun w₂ h₂ => h w₂ (tr _ _ _ _ hr h₂)
  | succ n =>
    rcases h with h | ⟨hs, h⟩
    · exact .inl fun w₂ h₂ => h w₂ (tr _ _ _ _ hr h₂)
    · exact .inr ⟨hs, fun w₂ h₂ => h w₂ (tr _ _ _ _ hr h₂)⟩

theorem GoesO.cases (h : GoesO P main R Q Stop n O g w) : (∀ w₁, R O w w₁ → Stop O g w₁) ∨ ∃ m, n = m + 1 ∧ g.status = .running ∧ ∀ w₁, R O w w₁ → ∃ g' w' es, stepG P main g w₁ = .go g' w' es ∧
    ∃ O', DOx O O' Q w₁ w' es ∧ GoesO P main R Q Stop m O' g' w' := by
  cases n with
  | zero => exact .inl h
  | succ n =>
    rcases h with h | ⟨hs, h⟩
    · exact .inl h
    · refine .inr ⟨n, rfl, hs, fun w₁ h₁ => ?_⟩
      obtain ⟨g', w', es, e, k⟩ := goes_elim (h w₁ h₁)
      exact ⟨g', w', es, e, k⟩

theorem GoesO.running (hst : ∀ O g w, Stop O g w → g.status = .running) (hr : R O w w) (h : GoesO P main R Q Stop n O g w) : g.status = .running := by
  rcases h.cases with h | ⟨_, _, hs, _⟩
  · exact hst _ _ _ (h w hr)
  · exact hs

theorem GoesO.more (h : GoesO P main R Q Stop n O g w) : GoesO P main R Q Stop (n + 1) O g w := by
  induction n generalizing O g w with
  | zero => exact .inl h
  | succ n ih =>
    rcases h with h | ⟨hs, h⟩
    · exact .inl h
    · refine .inr ⟨hs, fun w₁ h₁ => ?_⟩
      have := h w₁ h₁
      revert this
      cases stepG P main g w₁ <;> simp only [GStep.goes, imp_self]
      exact fun ⟨O', d, x⟩ => ⟨O', d, ih x⟩

theorem GoesO.step (hs : g.status = .running) (h : ∀ w₁, R O w w₁ → (stepG P main g w₁).goes fun g' w' es =>
    ∃ O', DOx O O' Q w₁ w' es ∧ GoesO P main R Q Stop n O' g' w') : GoesO P main R Q Stop (n + 1) O g w := .inr ⟨hs, h⟩

theorem GoesO.mono {n' : Nat} (h : GoesO P main R Q Stop n O g w) (hn : n ≤ n') : GoesO P main R Q Stop n' O g w := by
  induction hn with
  | refl => exact h
  | step _ ih => exact ih.more

/-- A stretch that neither turns the world nor lists anything, by the library's own judgement. -/
theorem GoesO.of_goes (rf : ∀ O w, R O w w) {R' : World → World → Prop} (hR : ∀ a b, R O a b → R' a b) {m : Nat} (h : Goes P main R' DC0 (fun g w => GoesO P main R Q Stop n O g w) m g w) : GoesO P main R Q Stop (n + m) O g w := by
  induction m generalizing g w with
  | zero => exact h w (hR _ _ (rf _ _))
  | succ m ih =>
    rcases h with h | ⟨hs, h⟩
    · exact GoesO.mono (h w (hR _ _ (rf _ _))) (by omega)
    · refine .inr ⟨hs, fun w₁ h₁ => ?_⟩
      have := h w₁ (hR _ _ h₁)
      revert this
      cases stepG P main g w₁ <;> simp only [GStep.goes, imp_self]
      rintro ⟨⟨rfl, rfl⟩, x⟩
      exact ⟨O, ⟨rfl, rfl, rfl, Nat.le_refl _, fun _ _ _ => rfl, fun b hb => .inl hb, by simp, fun _ _ _ _ h => h⟩, ih x⟩

/-- A stop that is a walk of its own. -/
theorem GoesO.bind (rf : ∀ O w, R O w w) {m : Nat} (h : GoesO P main R Q (fun O g w => GoesO P main R Q Stop n O g w) m O g w) : GoesO P main R Q Stop (n + m) O g w := by
  induction m generalizing O g w with
  | zero => exact h w (rf _ _)
  | succ m ih =>
    rcases h with h | ⟨hs, h⟩
    · exact GoesO.mono (h w (rf _ _)) (by omega)
    · refine .inr ⟨hs, fun w₁ h₁ => ?_⟩
      have := h w₁ h₁
      revert this
      cases stepG P main g w₁ <;> simp only [GStep.goes, imp_self]
      rintro ⟨O', d, x⟩
      exact ⟨O', d, ih x⟩
end

/-! ### the stops -/
section
variable (P : Program) (ty : TypeId) (Wg : Nat)

/-- The rely of a stretch that asks nothing of memory but that the group is there. -/
def Rg (ty : TypeId) (Wg : Nat) : World → World → Prop := Rl ty Wg (fun _ => False)

/-! A SENDER's END: 'release and merge', 'disable', the atomic add of -1; then it only leaves, or it is the last one. -/
def SD3 (g : Goroutine) (w : World) : Prop :=
  g.status = .running ∧ (WgAt ty Wg w 1 0 → ∃ g', stepG P false g w = .go g' (w.setCell (stA Wg) (.int .u64 0)) #[wr (stA Wg)] ∧ ∃ m, Goes P false (Rg ty Wg) DC0 (AtD4 P ty Wg) m g' (w.setCell (stA Wg) (.int .u64 0)))
def SD2 (g : Goroutine) (w : World) : Prop :=
  g.status = .running ∧ (WgAt ty Wg w 1 0 → ∃ g', stepG P false g w = .go g' w #[rd (stA Wg)] ∧ ∃ m, Goes P false (Rg ty Wg) DC0 (SD3 P ty Wg) m g' w)
def SD1 (g : Goroutine) (w : World) : Prop :=
  g.status = .running ∧ ∀ v wt : Nat, wt ≤ 1 → v < 2147483647 → WgAt ty Wg w ((v + 1) * KK + wt) 0 →
    ∃ g', stepG P false g w = .go g' (w.setCell (stA Wg) (.int .u64 (v * KK + wt))) #[rd (stA Wg), wr (stA Wg)] ∧
      ((v = 0 ∧ wt = 1) → ∃ m, Goes P false (Rg ty Wg) DC0 (SD2 P ty Wg) m g' (w.setCell (stA Wg) (.int .u64 (v * KK + wt)))) ∧ (¬ (v = 0 ∧ wt = 1) → ∃ q, QuitsD P q 1 g')
def SK1 (g : Goroutine) (w : World) : Prop :=
  g.status = .running ∧ ∃ g', stepG P false g w = .go g' w #[mk .disable] ∧ ∃ m, Goes P false (Rg ty Wg) DC0 (SD1 P ty Wg) m g' w
def SR0 (g : Goroutine) (w : World) : Prop :=
  g.status = .running ∧ ∃ g', stepG P false g w = .go g' w #[mk (.releaseMerge (stA Wg))] ∧ ∃ m, Goes P false (Rg ty Wg) DC0 (SK1 P ty Wg) m g' w

/-! A SENDER: it sends each value; then its end. -/
/-- In company: what it owns and what it reads stand. -/
def RO (ty : TypeId) (Wg : Nat) (Q : Nat → Prop) (O : Nat → Prop) : World → World → Prop := Rl ty Wg (fun b => O b ∨ Q b)

section
variable (Cm : Nat) (Q : Nat → Prop)
def AtSnd (v : Value) (Next : (Nat → Prop) → Goroutine → World → Prop) (O : Nat → Prop) (g : Goroutine) (w : World) : Prop :=
  g.status = .running ∧ ∃ z, stepG P false g w = .comm (core g) #[scase Cm v z] true .send w #[] ∧ ∀ w₁, RO ty Wg Q O w w₁ → Next O (Conc.served (core g) undef) w₁
def Snd : List Value → (Nat → Prop) → Goroutine → World → Prop
  | [] => fun O g w => ∃ m, GoesO P false (RO ty Wg Q) Q (fun _ g w => SR0 P ty Wg g w) m O g w
  | v :: vs => fun O g w => ∃ m, GoesO P false (RO ty Wg Q) Q (AtSnd P ty Wg Cm Q v (Snd vs)) m O g w

/-! THE COLLECTOR: it receives till the channel is closed; alone but for draws it computes what it hands over; it sends that, and only leaves. -/
variable (Cw : Nat) (Poss Full : List Value → Prop) (Res : List Value → Value → World → Prop)
def RA (_ : Nat → Prop) : World → World → Prop := AtRel
def AtSw (l : List Value) (_ : Nat → Prop) (g : Goroutine) (w : World) : Prop :=
  g.status = .running ∧ ∃ v z, stepG P false g w = .comm (core g) #[scase Cw v z] true .send w #[] ∧ Res l v w ∧ ∃ q, QuitsD P q 0 (Conc.served (core g) undef)
def Srt (l : List Value) (O : Nat → Prop) (g : Goroutine) (w : World) : Prop :=
  Full l → ∃ m, GoesO P false RA Q (AtSw P Cw Res l) m O g w
def AtRc (NextV : Value → (Nat → Prop) → Goroutine → World → Prop) (NextC : (Nat → Prop) → Goroutine → World → Prop) (O : Nat → Prop) (g : Goroutine) (w : World) : Prop :=
  g.status = .running ∧ ∃ z, stepG P false g w = .comm (core g) #[rcase Cm z] true (.recv true) w #[] ∧
    (∀ v w₁, RO ty Wg Q O w w₁ → NextV v O (Conc.served (core g) (.tuple #[v, .bool true])) w₁) ∧ (∀ w₁, RO ty Wg Q O w w₁ → NextC O (Conc.served (core g) (.tuple #[z, .bool false])) w₁)
def Rcv : Nat → List Value → (Nat → Prop) → Goroutine → World → Prop
  | 0 => fun l O g w => ∃ m, GoesO P false (RO ty Wg Q) Q (AtRc P ty Wg Cm Q (fun _ _ _ _ => True) (Srt P Q Cw Full Res l)) m O g w
  | r + 1 => fun l O g w => ∃ m, GoesO P false (RO ty Wg Q) Q (AtRc P ty Wg Cm Q (fun v O g w => Poss (l ++ [v]) → Rcv r (l ++ [v]) O g w) (Srt P Q Cw Full Res l)) m O g w
/-- What follows the receive of a value. -/
def NxV : Nat → List Value → Value → (Nat → Prop) → Goroutine → World → Prop
  | 0, _ => fun _ _ _ _ => True
  | r + 1, l => fun v O g w => Poss (l ++ [v]) → Rcv P ty Wg Cm Q Cw Poss Full Res r (l ++ [v]) O g w
theorem rcv_iff (r : Nat) (l : List Value) (O : Nat → Prop) (g : Goroutine) (w : World) :
    Rcv P ty Wg Cm Q Cw Poss Full Res r l O g w ↔ ∃ m, GoesO P false (RO ty Wg Q) Q (AtRc P ty Wg Cm Q (NxV P ty Wg Cm Q Cw Poss Full Res r l) (Srt P Q Cw Full Res l)) m O g w := by
  cases r <;> exact Iff.rfl
end

/-! THE STARTER's Add(+1), in company. -/
section
variable (S : Nat → Prop) (Next : Goroutine → World → Prop)
def AKe (g : Goroutine) (w : World) : Prop := g.status = .running ∧ ∃ g', stepG P true g w = .go g' w #[mk .enable] ∧ Next g' w
def ASaid (g : Goroutine) (w : World) : Prop :=
  g.status = .running ∧ ∃ g', stepG P true g w = .go g' w #[mk (.read (smA Wg))] ∧ ∃ m, Goes P true (Rl ty Wg S) DC0 (AKe P Next) m g' w
def AA1 (g : Goroutine) (w : World) : Prop :=
  g.status = .running ∧ ∀ v : Nat, v < 2147483647 → WgAt ty Wg w (v * KK) 0 →
    ∃ g', stepG P true g w = .go g' (w.setCell (stA Wg) (.int .u64 ((v + 1) * KK))) #[rd (stA Wg), wr (stA Wg)] ∧
      (v = 0 → ∃ m, Goes P true (Rl ty Wg S) DC0 (ASaid P ty Wg S Next) m g' (w.setCell (stA Wg) (.int .u64 ((v + 1) * KK)))) ∧
      (v ≠ 0 → ∃ m, Goes P true (Rl ty Wg S) DC0 (AKe P Next) m g' (w.setCell (stA Wg) (.int .u64 ((v + 1) * KK))))
def AKd (g : Goroutine) (w : World) : Prop := g.status = .running ∧ ∃ g', stepG P true g w = .go g' w #[mk .disable] ∧ ∃ m, Goes P true (Rl ty Wg S) DC0 (AA1 P ty Wg S Next) m g' w

/-! THE STARTER's Wait, from its end backwards. -/
def WAq (g : Goroutine) (w : World) : Prop := g.status = .running ∧ ∃ g', stepG P true g w = .go g' w #[mk (.acquire (stA Wg))] ∧ Next g' w
def WKe (g : Goroutine) (w : World) : Prop := g.status = .running ∧ ∃ g', stepG P true g w = .go g' w #[mk .enable] ∧ ∃ m, Goes P true (Rl ty Wg S) DC0 (WAq P Wg Next) m g' w
def W4 (g : Goroutine) (w : World) : Prop :=
  g.status = .running ∧ (WgAt ty Wg w 0 0 → ∃ g', stepG P true g w = .go g' w #[rd (stA Wg)] ∧ ∃ m, Goes P true (Rl ty Wg S) DC0 (WKe P ty Wg S Next) m g' w)
def W3 (g : Goroutine) (w : World) : Prop :=
  g.status = .running ∧ g.offers = none ∧
    ((∃ st, WgAt ty Wg w st 0) → stepG P true g w = .go { g with status := .blocked } w #[]) ∧
    (WgAt ty Wg w 0 1 → ∃ g', stepG P true g w = .go g' (w.setCell (smA Wg) (.int .u32 0)) (semEvents (smA Wg)) ∧ ∃ m, Goes P true (Rl ty Wg S) DC0 (W4 P ty Wg S Next) m g' (w.setCell (smA Wg) (.int .u32 0)))
def WSd (g : Goroutine) (w : World) : Prop :=
  g.status = .running ∧ ∃ g', stepG P true g w = .go g' w #[mk (.write (smA Wg))] ∧ ∃ m, Goes P true (Rl ty Wg S) DC0 (W3 P ty Wg S Next) m g' w
variable (Anch : Goroutine → World → Prop)
def W2 (vs : Nat) (g : Goroutine) (w : World) : Prop :=
  g.status = .running ∧ ∀ v : Nat, v < 2147483648 → WgAt ty Wg w (v * KK) 0 →
    (v = vs → ∃ g', stepG P true g w = .go g' (w.setCell (stA Wg) (.int .u64 (v * KK + 1))) #[rd (stA Wg), wr (stA Wg)] ∧ ∃ m, Goes P true (Rl ty Wg S) DC0 (WSd P ty Wg S Next) m g' (w.setCell (stA Wg) (.int .u64 (v * KK + 1)))) ∧
    (v ≠ vs → ∃ g', stepG P true g w = .go g' w #[rd (stA Wg)] ∧ ∃ m, Goes P true (Rl ty Wg S) DC0 Anch m g' w)
def W1 (g : Goroutine) (w : World) : Prop :=
  g.status = .running ∧ ∀ v : Nat, v < 2147483648 → WgAt ty Wg w (v * KK) 0 → ∃ g', stepG P true g w = .go g' w #[rd (stA Wg)] ∧
    (v = 0 → ∃ m, Goes P true (Rl ty Wg S) DC0 (WKe P ty Wg S Next) m g' w) ∧ (v ≠ 0 → ∃ m, Goes P true (Rl ty Wg S) DC0 (W2 P ty Wg S Next Anch v) m g' w)
def WKd (g : Goroutine) (w : World) : Prop := g.status = .running ∧ ∃ g', stepG P true g w = .go g' w #[mk .disable] ∧ ∃ m, Goes P true (Rl ty Wg S) DC0 Anch m g' w
end

/-! THE STARTER, behind the join: it closes the channel, and receives what the collector hands over. -/
section
variable (Cm Cw : Nat) (S : Nat → Prop) (NextM : Value → Goroutine → World → Prop)
def noO : Nat → Prop := fun _ => False
/-- It only reads. -/
def DR (S : Nat → Prop) (w w' : World) (es : Array Event) : Prop := w' = w ∧ ∀ e ∈ es, EvP noO S e
def AtRw (g : Goroutine) (w : World) : Prop :=
  g.status = .running ∧ ∃ z, stepG P true g w = .comm (core g) #[rcase Cw z] true (.recv false) w #[] ∧ ∀ v w₁, Rl ty Wg S w w₁ → NextM v (Conc.served (core g) v) w₁
def AtCl (g : Goroutine) (w : World) : Prop :=
  g.status = .running ∧ mayWake P g = true ∧ ∀ s r tm, w.heap[Cm]? = some (.chan 0 #[] false s r tm) →
    ∃ g', stepG P true g w = .go g' (w.shut Cm s r tm) #[⟨.obj Cm, false, true⟩, ⟨.obj Cm, true, true⟩] ∧ ∃ m, Goes P true (Rl ty Wg S) (DR S) (AtRw P ty Wg Cw S NextM) m g' (w.shut Cm s r tm)
/-- From behind the 'acquire'. -/
def Tail (g : Goroutine) (w : World) : Prop := ∃ m, Goes P true (Rl ty Wg S) (DR S) (AtCl P ty Wg Cm Cw S NextM) m g w
/-- The call of Wait, and all that follows. -/
def Wt (g : Goroutine) (w : World) : Prop :=
  ∃ Anch : Goroutine → World → Prop, (∀ g w, Anch g w → g.status = .running) ∧
    (∀ g w, Anch g w → ∃ m, Goes P true (Rl ty Wg S) DC0 (W1 P ty Wg S (Tail P ty Wg Cm Cw S NextM) Anch) m g w) ∧ ∃ m, Goes P true (Rl ty Wg S) DC0 (WKd P ty Wg S Anch) m g w
end

/-! THE STARTER, from the loop that starts the senders. -/
section
variable (Cm : Nat) (Q : Nat → Prop) (N : Nat) (vals : Nat → List Value) (Poss Full : List Value → Prop) (Res : List Value → Value → World → Prop) (NextM : Value → Goroutine → World → Prop)
/-- The go statement that starts sender number i. -/
def AtGo (i : Nat) (Next : (Nat → Prop) → Goroutine → World → Prop) (O : Nat → Prop) (g : Goroutine) (w : World) : Prop :=
  g.status = .running ∧ ∃ (g' child : Goroutine) (O' Oc : Nat → Prop), stepG P true g w = .spawn g' child w #[] ∧ child.status = .running ∧ (∀ b, O' b → O b) ∧ (∀ b, Oc b → O b) ∧ (∀ b, Oc b → ¬ O' b) ∧
    Snd P ty Wg Cm Q (vals i) Oc child w ∧ Next O' g' w
/-- The go statement that starts the collector. -/
def AtGc (Cw tot : Nat) (O : Nat → Prop) (g : Goroutine) (w : World) : Prop :=
  g.status = .running ∧ ∃ (g' child : Goroutine) (b9 : Nat), stepG P true g w = .spawn g' child w #[] ∧ child.status = .running ∧ O b9 ∧
    Rcv P ty Wg Cm (fun b => Q b ∨ b = b9) Cw Poss Full Res tot [] noO child w ∧ Wt P ty Wg Cm Cw (fun b => Q b ∨ b = b9) NextM g' w
/-- The make of the channel over which the collector hands over. -/
def AtMk (tot : Nat) (O : Nat → Prop) (g : Goroutine) (w : World) : Prop :=
  g.status = .running ∧ ∃ g', stepG P true g w = .go g' { w with heap := w.heap.push (.chan 0 #[] false 0 0 false) } #[] ∧
    ∃ m, GoesO P true (RO ty Wg Q) Q (AtGc P ty Wg Cm Q Poss Full Res NextM w.heap.size tot) m O g' { w with heap := w.heap.push (.chan 0 #[] false 0 0 false) }
def Gc (tot : Nat) (O : Nat → Prop) (g : Goroutine) (w : World) : Prop := ∃ m, GoesO P true (RO ty Wg Q) Q (AtMk P ty Wg Cm Q Poss Full Res NextM tot) m O g w
/-- r senders are still to be started. -/
def Sp (tot : Nat) : Nat → (Nat → Prop) → Goroutine → World → Prop
  | 0 => Gc P ty Wg Cm Q Poss Full Res NextM tot
  | r + 1 => fun O g w => ∃ m, GoesO P true (RO ty Wg Q) Q (fun O g w =>
      AKd P ty Wg (fun b => O b ∨ Q b) (fun g w => ∃ m, GoesO P true (RO ty Wg Q) Q (AtGo P ty Wg Cm Q vals (N - (r + 1)) (Sp tot r)) m O g w) g w) m O g w
end
end
end Go.Proofs.YtmmjlngbiilagaaGreatDoor

/-
  A FAN-IN: WHERE EACH GOROUTINE STANDS, and that it stands there still whatever the others do within their bounds.
-/
namespace Go.Proofs.YtmmjlngbiilagaaGreatDoor
open Go Go.Conc
open Go.ConcR (KK wgBlock WgAt stA smA rd wr mk DC0 again_blocked)
open Go.ConcN (WgLive AtD4 WD CTag)

/-- Where the starter stands. -/
inductive MT where
  | sp (r s : Nat) | gc (s : Nat) | kd | anch | w1 | w2 (vs : Nat) | wsd | w3 | blk | w4 | ke | acq | cl | rw | prw

/-- The same by the crowd's own tags (of which the group's two cells depend). -/
def toC : MT → CTag
  | .sp r s => .sp r (if 5 ≤ s then 5 else 3)
  | .gc _ | .kd => .kd
  | .anch => .anch
  | .w1 => .w1
  | .w2 vs => .w2 vs
  | .wsd | .w3 => .w3
  | .blk => .blk
  | .w4 => .w4
  | .ke => .ke
  | .acq => .acq
  | .cl | .rw | .prw => .ret
/-- The collector is started. -/
def hasC : MT → Prop
  | .sp _ _ | .gc _ => False
  | _ => True
/-- The channel over which the collector hands over is made. -/
def hasW : MT → Prop
  | .sp _ _ => False
  | .gc s => s = 1
  | _ => True
/-- The senders' channel is closed. -/
def isShut : MT → Bool
  | .rw | .prw => true
  | _ => false
/-- The join has been seen, and heard. -/
def isPost : MT → Prop
  | .cl | .rw | .prw => True
  | _ => False

section
variable (P : Program) (ty : TypeId) (Wg Cm : Nat) (Q : Nat → Prop)

/-! A sender: what is left to send, stage, fuel, deafness. -/
inductive SSit : List Value → Nat → Nat → Nat → (Nat → Prop) → Goroutine → World → Prop
  | snd {v : Value} {vs : List Value} {m : Nat} {O : Nat → Prop} {g : Goroutine} {w : World} : GoesO P false (RO ty Wg Q) Q (AtSnd P ty Wg Cm Q v (Snd P ty Wg Cm Q vs)) m O g w → SSit (v :: vs) 7 (m + 1) 0 O g w
  | prk {v z : Value} {vs : List Value} {O : Nat → Prop} {g : Goroutine} {w : World} : (∀ w₁, RO ty Wg Q O w w₁ → Snd P ty Wg Cm Q vs O (Conc.served (core g) undef) w₁) → SSit (v :: vs) 7 0 0 O (parked (core g) #[scase Cm v z] .send) w
  | r0 {m : Nat} {O : Nat → Prop} {g : Goroutine} {w : World} : GoesO P false (RO ty Wg Q) Q (fun _ g w => SR0 P ty Wg g w) m O g w → SSit [] 7 m 0 O g w
  | k1 {m : Nat} {O : Nat → Prop} {g : Goroutine} {w : World} : Goes P false (Rg ty Wg) DC0 (SK1 P ty Wg) m g w → SSit [] 6 m 0 O g w
  | d1 {m : Nat} {O : Nat → Prop} {g : Goroutine} {w : World} : Goes P false (Rg ty Wg) DC0 (SD1 P ty Wg) m g w → SSit [] 5 m 1 O g w
  | d2 {m : Nat} {O : Nat → Prop} {g : Goroutine} {w : World} : Goes P false (Rg ty Wg) DC0 (SD2 P ty Wg) m g w → SSit [] 4 m 1 O g w
  | d3 {m : Nat} {O : Nat → Prop} {g : Goroutine} {w : World} : Goes P false (Rg ty Wg) DC0 (SD3 P ty Wg) m g w → SSit [] 3 m 1 O g w
  | d4 {m : Nat} {O : Nat → Prop} {g : Goroutine} {w : World} : Goes P false (Rg ty Wg) DC0 (AtD4 P ty Wg) m g w → SSit [] 2 m 1 O g w
  | quit {q d : Nat} {O : Nat → Prop} {g : Goroutine} {w : World} : QuitsD P q d g → SSit [] 1 q d O g w

/-! The collector: what it has received, how many are still to come at most, stage, fuel. -/
section
variable (Cw : Nat) (Poss Full : List Value → Prop) (Res : List Value → Value → World → Prop)
def Rc1 (l : List Value) (r : Nat) : (Nat → Prop) → Goroutine → World → Prop :=
  AtRc P ty Wg Cm Q (NxV P ty Wg Cm Q Cw Poss Full Res r l) (Srt P Q Cw Full Res l)
inductive CSit : List Value → Nat → Nat → Nat → (Nat → Prop) → Goroutine → World → Prop
  | rcv {l : List Value} {r m : Nat} {O : Nat → Prop} {g : Goroutine} {w : World} : GoesO P false (RO ty Wg Q) Q (Rc1 P ty Wg Cm Q Cw Poss Full Res l r) m O g w → CSit l r 4 (m + 1) O g w
  | prk {l : List Value} {r : Nat} {z : Value} {O : Nat → Prop} {g : Goroutine} {w : World} : (∀ w₁, RO ty Wg Q O w w₁ → Rc1 P ty Wg Cm Q Cw Poss Full Res l r O g w₁) → CSit l r 4 0 O (parked (core g) #[rcase Cm z] (.recv true)) w
  | srt {l : List Value} {r m : Nat} {O : Nat → Prop} {g : Goroutine} {w : World} : GoesO P false RA Q (AtSw P Cw Res l) m O g w → CSit l r 3 (m + 1) O g w
  | pkw {l : List Value} {r q : Nat} {v z : Value} {O : Nat → Prop} {g : Goroutine} {w : World} : Res l v w → QuitsD P q 0 (Conc.served (core g) undef) → CSit l r 2 0 O (parked (core g) #[scase Cw v z] .send) w
  | quit {l : List Value} {r q : Nat} {O : Nat → Prop} {g : Goroutine} {w : World} : QuitsD P q 0 g → CSit l r 1 q O g w
end

/-! The starter: tag, how many are started, fuel, deafness. -/
section
variable (N : Nat) (vals : Nat → List Value) (Poss Full : List Value → Prop) (Res : List Value → Value → World → Prop) (NextM : Value → Goroutine → World → Prop) (tot : Nat)
def GoN (r : Nat) (O : Nat → Prop) : Goroutine → World → Prop :=
  fun g w => ∃ m, GoesO P true (RO ty Wg Q) Q (AtGo P ty Wg Cm Q vals (N - (r + 1)) (Sp P ty Wg Cm Q N vals Poss Full Res NextM tot r)) m O g w
def KdS (r : Nat) : (Nat → Prop) → Goroutine → World → Prop :=
  fun O g w => AKd P ty Wg (fun b => O b ∨ Q b) (GoN P ty Wg Cm Q N vals Poss Full Res NextM tot r O) g w
/-- The anchor of Wait's loop is a good one. -/
structure GoodA (Cw : Nat) (S : Nat → Prop) (Anch : Goroutine → World → Prop) : Prop where
  run : ∀ g w, Anch g w → g.status = .running
  go : ∀ g w, Anch g w → ∃ m, Goes P true (Rl ty Wg S) DC0 (W1 P ty Wg S (Tail P ty Wg Cm Cw S NextM) Anch) m g w
inductive MSit : MT → Nat → Nat → Nat → (Nat → Prop) → (Nat → Prop) → Nat → Goroutine → World → Prop
  | skd {r m : Nat} {O S : Nat → Prop} {Cw : Nat} {g : Goroutine} {w : World} : r < N → GoesO P true (RO ty Wg Q) Q (KdS P ty Wg Cm Q N vals Poss Full Res NextM tot r) m O g w → MSit (.sp r 6) (N - (r + 1)) m 0 O S Cw g w
  | sa1 {r m : Nat} {O S : Nat → Prop} {Cw : Nat} {g : Goroutine} {w : World} : r < N → Goes P true (Rl ty Wg (fun b => O b ∨ Q b)) DC0 (AA1 P ty Wg (fun b => O b ∨ Q b) (GoN P ty Wg Cm Q N vals Poss Full Res NextM tot r O)) m g w → MSit (.sp r 5) (N - (r + 1)) m 1 O S Cw g w
  | ssd {r m : Nat} {O S : Nat → Prop} {Cw : Nat} {g : Goroutine} {w : World} : r < N → Goes P true (Rl ty Wg (fun b => O b ∨ Q b)) DC0 (ASaid P ty Wg (fun b => O b ∨ Q b) (GoN P ty Wg Cm Q N vals Poss Full Res NextM tot r O)) m g w → MSit (.sp r 4) (N - (r + 1)) m 1 O S Cw g w
  | ske {r m : Nat} {O S : Nat → Prop} {Cw : Nat} {g : Goroutine} {w : World} : r < N → Goes P true (Rl ty Wg (fun b => O b ∨ Q b)) DC0 (AKe P (GoN P ty Wg Cm Q N vals Poss Full Res NextM tot r O)) m g w → MSit (.sp r 3) (N - (r + 1)) m 1 O S Cw g w
  | sgo {r m : Nat} {O S : Nat → Prop} {Cw : Nat} {g : Goroutine} {w : World} : r < N → GoesO P true (RO ty Wg Q) Q (AtGo P ty Wg Cm Q vals (N - (r + 1)) (Sp P ty Wg Cm Q N vals Poss Full Res NextM tot r)) m O g w → MSit (.sp r 2) (N - (r + 1)) m 0 O S Cw g w
  | gmk {m : Nat} {O S : Nat → Prop} {Cw : Nat} {g : Goroutine} {w : World} : GoesO P true (RO ty Wg Q) Q (AtMk P ty Wg Cm Q Poss Full Res NextM tot) m O g w → MSit (.gc 2) N m 0 O S Cw g w
  | ggc {m : Nat} {O S : Nat → Prop} {Cw : Nat} {g : Goroutine} {w : World} : GoesO P true (RO ty Wg Q) Q (AtGc P ty Wg Cm Q Poss Full Res NextM Cw tot) m O g w → MSit (.gc 1) N m 0 O S Cw g w
  | kd {m : Nat} {S : Nat → Prop} {Cw : Nat} {g : Goroutine} {w : World} {Anch : Goroutine → World → Prop} : GoodA P ty Wg Cm NextM Cw S Anch → Goes P true (Rl ty Wg S) DC0 (WKd P ty Wg S Anch) m g w → MSit .kd N m 0 noO S Cw g w
  | anch {m : Nat} {S : Nat → Prop} {Cw : Nat} {g : Goroutine} {w : World} {Anch : Goroutine → World → Prop} : GoodA P ty Wg Cm NextM Cw S Anch → Goes P true (Rl ty Wg S) DC0 Anch m g w → MSit .anch N m 1 noO S Cw g w
  | w1 {m : Nat} {S : Nat → Prop} {Cw : Nat} {g : Goroutine} {w : World} {Anch : Goroutine → World → Prop} : GoodA P ty Wg Cm NextM Cw S Anch → Goes P true (Rl ty Wg S) DC0 (W1 P ty Wg S (Tail P ty Wg Cm Cw S NextM) Anch) m g w → MSit .w1 N m 1 noO S Cw g w
  | w2 {vs m : Nat} {S : Nat → Prop} {Cw : Nat} {g : Goroutine} {w : World} {Anch : Goroutine → World → Prop} : GoodA P ty Wg Cm NextM Cw S Anch → Goes P true (Rl ty Wg S) DC0 (W2 P ty Wg S (Tail P ty Wg Cm Cw S NextM) Anch vs) m g w → MSit (.w2 vs) N m 1 noO S Cw g w
  | wsd {m : Nat} {S : Nat → Prop} {Cw : Nat} {g : Goroutine} {w : World} : Goes P true (Rl ty Wg S) DC0 (WSd P ty Wg S (Tail P ty Wg Cm Cw S NextM)) m g w → MSit .wsd N m 1 noO S Cw g w
  | w3 {m : Nat} {S : Nat → Prop} {Cw : Nat} {g : Goroutine} {w : World} : Goes P true (Rl ty Wg S) DC0 (W3 P ty Wg S (Tail P ty Wg Cm Cw S NextM)) m g w → MSit .w3 N (m + 1) 1 noO S Cw g w
  | blk {S : Nat → Prop} {Cw : Nat} {g : Goroutine} {w : World} : (∀ w₁, Rl ty Wg S w w₁ → W3 P ty Wg S (Tail P ty Wg Cm Cw S NextM) g w₁) → MSit .blk N 0 1 noO S Cw { g with status := .blocked } w
  | w4 {m : Nat} {S : Nat → Prop} {Cw : Nat} {g : Goroutine} {w : World} : Goes P true (Rl ty Wg S) DC0 (W4 P ty Wg S (Tail P ty Wg Cm Cw S NextM)) m g w → MSit .w4 N m 1 noO S Cw g w
  | ke {m : Nat} {S : Nat → Prop} {Cw : Nat} {g : Goroutine} {w : World} : Goes P true (Rl ty Wg S) DC0 (WKe P ty Wg S (Tail P ty Wg Cm Cw S NextM)) m g w → MSit .ke N m 1 noO S Cw g w
  | acq {m : Nat} {S : Nat → Prop} {Cw : Nat} {g : Goroutine} {w : World} : Goes P true (Rl ty Wg S) DC0 (WAq P Wg (Tail P ty Wg Cm Cw S NextM)) m g w → MSit .acq N m 0 noO S Cw g w
  | cl {m : Nat} {S : Nat → Prop} {Cw : Nat} {g : Goroutine} {w : World} : Goes P true (Rl ty Wg S) (DR S) (AtCl P ty Wg Cm Cw S NextM) m g w → MSit .cl N m 0 noO S Cw g w
  | rw {m : Nat} {S : Nat → Prop} {Cw : Nat} {g : Goroutine} {w : World} : Goes P true (Rl ty Wg S) (DR S) (AtRw P ty Wg Cw S NextM) m g w → MSit .rw N (m + 1) 0 noO S Cw g w
  | prw {z : Value} {S : Nat → Prop} {Cw : Nat} {g : Goroutine} {w : World} : (∀ v w₁, Rl ty Wg S w w₁ → NextM v (Conc.served (core g) v) w₁) → MSit .prw N 0 0 noO S Cw (parked (core g) #[rcase Cw z] (.recv false)) w
end
end

/-! ### each stands where the others do what they may -/
section
variable {P : Program} {ty : TypeId} {Wg Cm : Nat} {Q : Nat → Prop} {O S : Nat → Prop} {g : Goroutine} {w w₁ : World}

theorem roTr : ∀ (O : Nat → Prop) (a b c : World), RO ty Wg Q O a b → RO ty Wg Q O b c → RO ty Wg Q O a c := fun _ _ _ _ h h' => Rl.trans h h'
theorem roRf : ∀ (O : Nat → Prop) (w : World), RO ty Wg Q O w w := fun _ w => Rl.refl w
theorem rlTr : ∀ (a b c : World), Rl ty Wg S a b → Rl ty Wg S b c → Rl ty Wg S a c := fun _ _ _ h h' => Rl.trans h h'
theorem raTr : ∀ (O : Nat → Prop) (a b c : World), RA O a b → RA O b c → RA O a c := fun _ _ _ _ h h' => atRel_trans _ _ _ h h'

theorem SSit.rely {rem : List Value} {s f d : Nat} (h : SSit P ty Wg Cm Q rem s f d O g w) (hr : RO ty Wg Q O w w₁) : SSit P ty Wg Cm Q rem s f d O g w₁ := by
  have hg : Rg ty Wg w w₁ := Rl.less hr (fun b hb => hb.elim)
  cases h with
  | snd h => exact .snd (h.rely roTr hr)
  | prk h => exact .prk fun w₂ h₂ => h w₂ (hr.trans h₂)
  | r0 h => exact .r0 (h.rely roTr hr)
  | k1 h => exact .k1 (h.rely rlTr hg)
  | d1 h => exact .d1 (h.rely rlTr hg)
  | d2 h => exact .d2 (h.rely rlTr hg)
  | d3 h => exact .d3 (h.rely rlTr hg)
  | d4 h => exact .d4 (h.rely rlTr hg)
  | quit h => exact .quit h

/-- A sender runs, has ended, or is parked at its send. -/
theorem SSit.status {rem : List Value} {s f d : Nat} (h : SSit P ty Wg Cm Q rem s f d O g w) :
    (g.status = .running) ∨ (g.status = .finished ∧ s = 1) ∨ (f = 0 ∧ s = 7 ∧ rem ≠ [] ∧ ∃ (g₀ : Goroutine) (v z : Value), g = parked (core g₀) #[scase Cm v z] .send) := by
  cases h with
  | snd h => exact .inl (h.running (fun _ _ _ x => x.1) (roRf _ _))
  | prk h => exact .inr (.inr ⟨rfl, rfl, by simp, _, _, _, rfl⟩)
  | r0 h => exact .inl (h.running (fun _ _ _ x => x.1) (roRf _ _))
  | k1 h => exact .inl (Goes.running (fun _ _ x => x.1) w (Rl.refl w) h)
  | d1 h => exact .inl (Goes.running (fun _ _ x => x.1) w (Rl.refl w) h)
  | d2 h => exact .inl (Goes.running (fun _ _ x => x.1) w (Rl.refl w) h)
  | d3 h => exact .inl (Goes.running (fun _ _ x => x.1) w (Rl.refl w) h)
  | d4 h => exact .inl (Goes.running (fun _ _ x => x.1) w (Rl.refl w) h)
  | quit h => exact h.status.imp id fun x => .inl ⟨x, rfl⟩

theorem SSit.quits {rem : List Value} {s f d : Nat} (h : SSit P ty Wg Cm Q rem s f d O g w) (hs : s = 1) : QuitsD P f d g ∧ rem = [] := by
  cases h <;> first | (exact absurd hs (by decide)) | exact ⟨by assumption, rfl⟩

theorem SSit.rem_nil {rem : List Value} {s f d : Nat} (h : SSit P ty Wg Cm Q rem s f d O g w) (hs : s ≠ 7) : rem = [] := by
  cases h <;> first | rfl | exact absurd rfl hs

theorem woken_parked_send {a a' : Goroutine} {c : Nat} {v z : Value} {sh : CommShape} {buf : Array Value} {s r cap : Nat} {tm : Bool} (hc : w.heap[c]? = some (.chan cap buf false s r tm)) :
    woken P a a' w (parked g #[scase c v z] sh) = parked g #[scase c v z] sh := woken_send_open a a' hc

theorem SSit.woken {rem : List Value} {s f d : Nat} (h : SSit P ty Wg Cm Q rem s f d O g w) (a a' : Goroutine) (w' : World) {s' r' : Nat} {tm : Bool} (hc : (s = 7 → rem ≠ [] → w'.heap[Cm]? = some (.chan 0 #[] false s' r' tm))) : woken P a a' w' g = g := by
  rcases h.status with h1 | ⟨h1, _⟩ | ⟨_, h7, hr, g₀, v, z, rfl⟩
  · exact woken_run h1
  · unfold Go.Conc.woken
    split
    · exact again_running _ (.inr h1)
    · rfl
  · exact woken_parked_send (hc h7 hr)

section
variable {Cw : Nat} {Poss Full : List Value → Prop} {Res : List Value → Value → World → Prop} {l : List Value} {r c f : Nat}
theorem CSit.rely (h : CSit P ty Wg Cm Q Cw Poss Full Res l r c f O g w) (h4 : c = 4 → RO ty Wg Q O w w₁) (h3 : c = 3 → AtRel w w₁) (h2 : ∀ v, c = 2 → Res l v w → Res l v w₁) : CSit P ty Wg Cm Q Cw Poss Full Res l r c f O g w₁ := by
  cases h with
  | rcv h => exact .rcv (h.rely roTr (h4 rfl))
  | prk h => exact .prk fun w₂ h₂ => h w₂ ((h4 rfl).trans h₂)
  | srt h => exact .srt (h.rely raTr (h3 rfl))
  | pkw h hq => exact .pkw (h2 _ rfl h) hq
  | quit h => exact .quit h

theorem CSit.status (h : CSit P ty Wg Cm Q Cw Poss Full Res l r c f O g w) :
    (g.status = .running) ∨ (g.status = .finished ∧ c = 1) ∨ (f = 0 ∧ c = 4 ∧ ∃ (g₀ : Goroutine) (z : Value), g = parked (core g₀) #[rcase Cm z] (.recv true)) ∨ (f = 0 ∧ c = 2 ∧ ∃ (g₀ : Goroutine) (v z : Value), g = parked (core g₀) #[scase Cw v z] .send) := by
  cases h with
  | rcv h => exact .inl (h.running (fun _ _ _ x => x.1) (roRf _ _))
  | prk h => exact .inr (.inr (.inl ⟨rfl, rfl, _, _, rfl⟩))
  | srt h => exact .inl (h.running (fun _ _ _ x => x.1) (atRel_refl _))
  | pkw h hq => exact .inr (.inr (.inr ⟨rfl, rfl, _, _, _, rfl⟩))
  | quit h => exact h.status.imp id fun x => .inl ⟨x, rfl⟩
end

section
variable {N : Nat} {vals : Nat → List Value} {Poss Full : List Value → Prop} {Res : List Value → Value → World → Prop} {NextM : Value → Goroutine → World → Prop} {tot : Nat}
  {tag : MT} {j f d Cw : Nat}
theorem MSit.rely (h : MSit P ty Wg Cm Q N vals Poss Full Res NextM tot tag j f d O S Cw g w) (hO : RO ty Wg Q O w w₁) (hS : hasC tag → Rl ty Wg S w w₁) : MSit P ty Wg Cm Q N vals Poss Full Res NextM tot tag j f d O S Cw g w₁ := by
  cases h with
  | skd hr h => exact .skd hr (h.rely roTr hO)
  | sa1 hr h => exact .sa1 hr (h.rely rlTr hO)
  | ssd hr h => exact .ssd hr (h.rely rlTr hO)
  | ske hr h => exact .ske hr (h.rely rlTr hO)
  | sgo hr h => exact .sgo hr (h.rely roTr hO)
  | gmk h => exact .gmk (h.rely roTr hO)
  | ggc h => exact .ggc (h.rely roTr hO)
  | kd a h => exact .kd a (h.rely rlTr (hS trivial))
  | anch a h => exact .anch a (h.rely rlTr (hS trivial))
  | w1 a h => exact .w1 a (h.rely rlTr (hS trivial))
  | w2 a h => exact .w2 a (h.rely rlTr (hS trivial))
  | wsd h => exact .wsd (h.rely rlTr (hS trivial))
  | w3 h => exact .w3 (h.rely rlTr (hS trivial))
  | blk h => exact .blk fun w₂ h₂ => h w₂ ((hS trivial).trans h₂)
  | w4 h => exact .w4 (h.rely rlTr (hS trivial))
  | ke h => exact .ke (h.rely rlTr (hS trivial))
  | acq h => exact .acq (h.rely rlTr (hS trivial))
  | cl h => exact .cl (h.rely rlTr (hS trivial))
  | rw h => exact .rw (h.rely rlTr (hS trivial))
  | prw h => exact .prw fun v w₂ h₂ => h v w₂ ((hS trivial).trans h₂)

theorem goesRun {main : Bool} {D : World → World → Array Event → Prop} {St : Goroutine → World → Prop} {m : Nat} (hst : ∀ g w, St g w → g.status = .running) (h : Goes P main (Rl ty Wg S) D St m g w) : g.status = .running :=
  Goes.running hst w (Rl.refl w) h

/-- The starter runs; or it is blocked at the semaphore; or parked at its receive. -/
theorem MSit.status (h : MSit P ty Wg Cm Q N vals Poss Full Res NextM tot tag j f d O S Cw g w) :
    (g.status = .running ∧ tag ≠ .blk ∧ tag ≠ .prw) ∨ (g.status = .blocked ∧ g.offers = none ∧ tag = .blk) ∨ (f = 0 ∧ tag = .prw ∧ ∃ (g₀ : Goroutine) (z : Value), g = parked (core g₀) #[rcase Cw z] (.recv false)) := by
  cases h with
  | skd hr h => exact .inl ⟨h.running (fun _ _ _ x => x.1) (roRf _ _), by simp, by simp⟩
  | sa1 hr h => exact .inl ⟨goesRun (fun _ _ x => x.1) h, by simp, by simp⟩
  | ssd hr h => exact .inl ⟨goesRun (fun _ _ x => x.1) h, by simp, by simp⟩
  | ske hr h => exact .inl ⟨goesRun (fun _ _ x => x.1) h, by simp, by simp⟩
  | sgo hr h => exact .inl ⟨h.running (fun _ _ _ x => x.1) (roRf _ _), by simp, by simp⟩
  | gmk h => exact .inl ⟨h.running (fun _ _ _ x => x.1) (roRf _ _), by simp, by simp⟩
  | ggc h => exact .inl ⟨h.running (fun _ _ _ x => x.1) (roRf _ _), by simp, by simp⟩
  | kd a h => exact .inl ⟨goesRun (fun _ _ x => x.1) h, by simp, by simp⟩
  | anch a h => exact .inl ⟨goesRun a.run h, by simp, by simp⟩
  | w1 a h => exact .inl ⟨goesRun (fun _ _ x => x.1) h, by simp, by simp⟩
  | w2 a h => exact .inl ⟨goesRun (fun _ _ x => x.1) h, by simp, by simp⟩
  | wsd h => exact .inl ⟨goesRun (fun _ _ x => x.1) h, by simp, by simp⟩
  | w3 h => exact .inl ⟨goesRun (fun _ _ x => x.1) h, by simp, by simp⟩
  | blk h => exact .inr (.inl ⟨rfl, (h w (Rl.refl w)).2.1, rfl⟩)
  | w4 h => exact .inl ⟨goesRun (fun _ _ x => x.1) h, by simp, by simp⟩
  | ke h => exact .inl ⟨goesRun (fun _ _ x => x.1) h, by simp, by simp⟩
  | acq h => exact .inl ⟨goesRun (fun _ _ x => x.1) h, by simp, by simp⟩
  | cl h => exact .inl ⟨goesRun (fun _ _ x => x.1) h, by simp, by simp⟩
  | rw h => exact .inl ⟨goesRun (fun _ _ x => x.1) h, by simp, by simp⟩
  | prw h => exact .inr (.inr ⟨rfl, rfl, _, _, rfl⟩)

/-- .. let try again by another's step: blocked at the semaphore it tries; its fuel grows by one. -/
theorem MSit.wokenBy (h : MSit P ty Wg Cm Q N vals Poss Full Res NextM tot tag j f d O S Cw g w) (a a' : Goroutine) {s' r' : Nat} {tm : Bool} (hc : tag = .prw → w.heap[Cw]? = some (.chan 0 #[] false s' r' tm)) :
    ∃ tag' f', MSit P ty Wg Cm Q N vals Poss Full Res NextM tot tag' j f' d O S Cw (woken P a a' w g) w ∧ f' ≤ f + 1 ∧ ((tag' = tag ∧ f' = f) ∨ (tag = .blk ∧ tag' = .w3)) ∧ (mayWake P a = true → a'.status = .running → tag' ≠ .blk) := by
  rcases h.status with ⟨hs, hb, _⟩ | ⟨_, _, rfl⟩ | ⟨_, rfl, g₀, z, rfl⟩
  · exact ⟨tag, f, by rw [woken_run hs]; exact h, by omega, .inl ⟨rfl, rfl⟩, fun _ _ => hb⟩
  · cases h with
    | blk hb =>
      rename_i g0
      have h3 := hb w (Rl.refl w)
      unfold Go.Conc.woken
      split
      · exact ⟨.w3, 0 + 1, by rw [again_blocked h3.1 h3.2.1]; exact .w3 (Goes.stop hb), by omega, .inr ⟨rfl, rfl⟩, fun _ _ => by simp⟩
      · rename_i hn
        exact ⟨.blk, 0, .blk hb, by omega, .inl ⟨rfl, rfl⟩, fun h1 h2 => absurd (by simp [h1, h2]) hn⟩
  · refine ⟨.prw, f, ?_, by omega, .inl ⟨rfl, rfl⟩, fun _ _ => by simp⟩
    rw [woken_recv_open a a' (hc rfl)]
    exact h
end
end
end Go.Proofs.YtmmjlngbiilagaaGreatDoor
