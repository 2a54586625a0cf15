/-
  WHAT A PROGRAM DOES WITH ONE WORLD IT DOES WITH ANOTHER: 'Tame' meanings (no look at a block's shape, no calls of the system, no marks but 'noRoom'; finitely many answers to each question) run alike from a world in which all that is foreign has been emptied and from the true one, and touch nothing that is foreign.
-/
import Derived.Test.YtmmjlngbiilagaaGreatDoorT08
import Derived.Conc.Own
import Derived.Conc.Listed
import Derived.Conc.Events
import Derived.Deep.MidRow
import Derived.Conc.LoneCalls

namespace Go.Proofs.YtmmjlngbiilagaaGreatDoor
open Go Go.Conc

/-- A question with finitely many answers (a region's order stands for itself). -/
def FinQ : Question → Prop
  | .order .. => False
  | .extern _ r => r ≠ 0
  | .appendCap need _ _ => need < 2 ^ 63
  | .sched n | .select n | .mapNext n => n ≠ 0
  | _ => True
theorem FinQ.bound {q : Question} (h : FinQ q) : ∃ b, ∀ t, q.cut t < b := by
  cases q with
  | sched n => exact ⟨n, fun t => Nat.mod_lt _ (Nat.pos_of_ne_zero h)⟩
  | select n => exact ⟨n, fun t => Nat.mod_lt _ (Nat.pos_of_ne_zero h)⟩
  | mapNext n => exact ⟨n, fun t => Nat.mod_lt _ (Nat.pos_of_ne_zero h)⟩
  | order => exact h.elim
  | appendCap need o e => exact ⟨need + (2 ^ 63 - need), fun t => Nat.add_lt_add_left (Nat.mod_lt _ (Nat.sub_pos_of_lt h)) _⟩
  | zeroSizeEq => exact ⟨2, fun t => Nat.mod_lt _ (by decide)⟩
  | early g => exact ⟨2, fun t => Nat.mod_lt _ (by decide)⟩
  | floatToInt a b d => exact ⟨_, fun t => Nat.mod_lt _ (Nat.two_pow_pos _)⟩
  | floatToFloat b => exact ⟨_, fun t => Nat.mod_lt _ (Nat.two_pow_pos _)⟩
  | nanBits k x y => cases k <;> exact ⟨2 ^ 65, fun t => by simp only [Question.cut]; omega⟩
  | nanConv k x => cases k <;> exact ⟨2 ^ 65, fun t => by simp only [Question.cut]; omega⟩
  | nanMinMax k m x y => cases k <;> exact ⟨2 ^ 65, fun t => by simp only [Question.cut]; omega⟩
  | extern s r => exact ⟨r, fun t => by simp only [Question.cut]; rw [if_neg h]; exact Nat.mod_lt _ (Nat.pos_of_ne_zero h)⟩

/-- What a bridge speaks of: V: the program over which a run was shown; P: the true one; gr: may objects (maps ..) be looked at; B: from here on blocks are new; G: where an address may lead, if it matters. -/
structure Cfg where
  V : Program
  P : Program
  gr : Bool
  B : Nat
  G : Nat → Prop
  rows : String → Bool
  odds : Nat → TypeId → Obj → Prop

/-- Addresses lead to good blocks. -/
inductive PF (G : Nat → Prop) : Value → Prop
  | bool (b : Bool) : PF G (.bool b)
  | int (k : IntKind) (n : Int) : PF G (.int k n)
  | float (k : FloatKind) (n : Nat) : PF G (.float k n)
  | complex (k : FloatKind) (a b : Nat) : PF G (.complex k a b)
  | string (s : ByteArray) : PF G (.string s)
  | nilp : PF G (.pointer none)
  | ptr {a : Addr} : G a.block → PF G (.pointer (some a))
  | nils (l c : Nat) : PF G (.slice none l c)
  | slice {a : Addr} (l c : Nat) : G a.block → PF G (.slice (some a) l c)
  | map (r : Option Nat) : PF G (.map r)
  | chan (r : Option Nat) : PF G (.chan r)
  | func (f : Fn) {first captured : Array Value} : (∀ x, x ∈ first → PF G x) → (∀ x, x ∈ captured → PF G x) → PF G (.func f first captured)
  | nilFunc : PF G .nilFunc
  | iface (t : TypeId) {v : Value} : PF G v → PF G (.iface t v)
  | nilIface : PF G .nilIface
  | agg {cs : Array Value} : (∀ x, x ∈ cs → PF G x) → PF G (.agg cs)
  | tuple {cs : Array Value} : (∀ x, x ∈ cs → PF G x) → PF G (.tuple cs)
def PFv (K : Cfg) (v : Value) : Prop := False ∨ PF K.G v
def PFb (K : Cfg) (b : Nat) : Prop := False ∨ K.G b
theorem PFv.cells {K : Cfg} {v : Value} (h : PFv K v) : ∀ x ∈ v.cells, PFv K x := fun x hx => h.imp id fun h => by
  cases h with
  | agg h' => exact h' x hx
  | _ =>
    simp only [Value.cells, Array.mem_singleton] at hx
    subst hx
    constructor <;> assumption

/-- An object that a tame meaning may lay, set or find. -/
def TameO (K : Cfg) : Obj → Prop
  | .view .. | .pending .. | .loop .. => False
  | .cells c _ _ => ∀ x ∈ c, PFv K x
  | .number a _ => PFb K a.block
  | .map es _ => K.gr = true ∧ ∀ e ∈ es, PFv K e.key ∧ PFv K e.val
  | _ => K.gr = true

/-- An object that v does not hold as w does. -/
def oddO : Obj → Prop
  | .view .. | .pending .. | .loop .. => True
  | _ => False
/-- What v holds there: a view of itself. -/
def deadV (b : Nat) (_ : TypeId) : Obj := .view ⟨b, 0, none⟩ 0
/-- What truth holds there. -/
def OddIn (K : Cfg) (b : Nat) (t : TypeId) (o : Obj) : Prop := oddO o ∧ K.odds b t o
theorem OddIn.odd {K : Cfg} {b : Nat} {t : TypeId} {o : Obj} (h : OddIn K b t o) : oddO o := h.1
/-- What a block of v holds. -/
def TameAt (K : Cfg) (b : Nat) (o : Obj) : Prop := TameO K o ∨ (K.gr = true ∧ ∃ t, o = deadV b t)

/-- The ends that a tame meaning may come to. -/
def HaltOk : Halt → Prop
  | .panic _ | .stuck _ => True
  | .unsupported (.initOrder _) => False
  | .unsupported _ => True
  | _ => False

/-- It comes to nothing. -/
def Dead {α : Type} : Sem α → Prop
  | .mark _ k => Dead k
  | .halt (.stuck _) => True
  | .halt (.unsupported (.initOrder _)) => False
  | .halt (.unsupported _) => True
  | _ => False

/-- A run's end that counts: a value, or a panic of Go's own. -/
def Clean {α : Type} : Result α → Prop
  | .ok .. => True
  | .halt (.panic _) _ => True
  | _ => False
/-- It never comes to such an end. -/
def NC {α : Type} (V : Program) (s : Sem α) : Prop := ∀ (v : World) (es : Array Event), ¬ Clean (s.runT V v es).1

/-- A tame meaning. -/
def Tame {α : Type} (K : Cfg) (A : α → Prop) : Sem α → Prop
  | .pure a => A a
  | .load m _ k => m = .plain ∧ ∀ v, PFv K v → Tame K A (k v)
  | .store m _ v k => m = .plain ∧ PFv K v ∧ Tame K A k
  | .new o k => TameO K o ∧ ∀ r, K.B ≤ r → Tame K A (k r)
  | .shape r k => PFb K r ∧ (K.gr = false ∨ K.B ≤ r ∨ ∀ t n, k (some (t, 0)) = k (some (t, n)) ∨ NC K.V (k (some (t, 0)))) ∧ (∀ t n, Tame K A (k (some (t, n)))) ∧ (K.gr = true ∨ K.B ≤ r → Tame K A (k none))
  | .freeze _ _ _ => False
  | .frozen _ k => ∀ b, Tame K A (k b)
  | .getObj r k => ((K.gr = true ∨ K.B ≤ r) ∨ ∀ o, TameO K o → NC K.V (k o)) ∧ (∀ o, TameO K o → Tame K A (k o)) ∧ (K.gr = true → ∀ t, Tame K A (k (deadV r t)) ∧ ∀ o, oddO o → k (deadV r t) = k o ∨ NC K.V (k (deadV r t)))
  | .setObj _ o k => K.gr = true ∧ TameO K o ∧ Tame K A k
  | .choose q k => FinQ q ∧ ∀ n, Tame K A (k n)
  | .sys _ _ => False
  | .program k => (k K.V = k K.P ∧ Tame K A (k K.P)) ∨ Dead (k K.V)
  | .mark m k => ((K.gr = true ∧ m = .noRoom) ∨ ∃ f, m = .extern f) ∧ Tame K A k
  | .halt h => HaltOk h

section
variable {K : Cfg} {α β : Type}
theorem Dead.bind {f : α → Sem β} : ∀ {s : Sem α}, Dead s → Dead (s.bind f) := by
  intro s
  induction s with
  | mark m k ih => exact fun h => ih h
  | halt h =>
    cases h with
    | unsupported u => cases u <;> exact id
    | _ => exact id
  | _ => exact False.elim
theorem NC.bind {V : Program} {s : Sem α} {f : α → Sem β} (h : NC V s) : NC V (s.bind f) := fun v es hc => by
  have hs := h v es
  have e : (s.bind f).runT V v es = _ := Sem.runT_bind' V s f v es
  rw [e] at hc
  cases hr : s.runT V v es with
  | mk r es' =>
    rw [hr] at hs hc
    cases r with
    | ok a w => exact hs trivial
    | halt hh w => exact hs (by cases hh <;> exact hc)
theorem Tame.mono {A B : α → Prop} (h : ∀ a, A a → B a) : ∀ {s : Sem α}, Tame K A s → Tame K B s := by
  intro s
  induction s with
  | pure a => exact h a
  | load m a k ih => exact fun ⟨h1, h2⟩ => ⟨h1, fun v hv => ih v (h2 v hv)⟩
  | store m a v k ih => exact fun ⟨h1, h2, h3⟩ => ⟨h1, h2, ih h3⟩
  | new o k ih => exact fun ⟨h1, h2⟩ => ⟨h1, fun r hr => ih r (h2 r hr)⟩
  | shape r k ih => exact fun ⟨h1, h2, h3, h4⟩ => ⟨h1, h2, fun t n => ih _ (h3 t n), fun h => ih _ (h4 h)⟩
  | freeze => exact id
  | frozen a k ih => exact fun h b => ih b (h b)
  | getObj r k ih => exact fun ⟨h1, h2, h3⟩ => ⟨h1, fun o ho => ih o (h2 o ho), fun hg t => ⟨ih _ (h3 hg t).1, (h3 hg t).2⟩⟩
  | setObj r o k ih => exact fun ⟨h1, h2, h3⟩ => ⟨h1, h2, ih h3⟩
  | choose q k ih => exact fun ⟨h1, h2⟩ => ⟨h1, fun n => ih n (h2 n)⟩
  | sys => exact id
  | program k ih => exact fun h => h.imp (fun ⟨h1, h2⟩ => ⟨h1, ih _ h2⟩) id
  | mark m k ih => exact fun ⟨h1, h2⟩ => ⟨h1, ih h2⟩
  | halt => exact id
theorem Tame.bind {A : α → Prop} {B : β → Prop} {f : α → Sem β} (hf : ∀ a, A a → Tame K B (f a)) : ∀ {s : Sem α}, Tame K A s → Tame K B (s.bind f) := by
  intro s
  induction s with
  | pure a => exact hf a
  | load m a k ih => exact fun ⟨h1, h2⟩ => ⟨h1, fun v hv => ih v (h2 v hv)⟩
  | store m a v k ih => exact fun ⟨h1, h2, h3⟩ => ⟨h1, h2, ih h3⟩
  | new o k ih => exact fun ⟨h1, h2⟩ => ⟨h1, fun r hr => ih r (h2 r hr)⟩
  | shape r k ih => exact fun ⟨h1, h2, h3, h4⟩ => ⟨h1, h2.imp id fun h2 => h2.imp id fun h t n => (h t n).imp (fun e => by show (k _).bind f = (k _).bind f; rw [e]) fun h => h.bind, fun t n => ih _ (h3 t n), fun h => ih _ (h4 h)⟩
  | freeze => exact False.elim
  | frozen a k ih => exact fun h b => ih b (h b)
  | getObj r k ih => exact fun ⟨h1, h2, h3⟩ => ⟨h1.imp id fun h o ho => (h o ho).bind, fun o ho => ih o (h2 o ho), fun hg t => ⟨ih _ (h3 hg t).1, fun o ho => ((h3 hg t).2 o ho).imp (fun e => by show (k _).bind f = (k _).bind f; rw [e]) fun h => h.bind⟩⟩
  | setObj r o k ih => exact fun ⟨h1, h2, h3⟩ => ⟨h1, h2, ih h3⟩
  | choose q k ih => exact fun ⟨h1, h2⟩ => ⟨h1, fun n => ih n (h2 n)⟩
  | sys => exact False.elim
  | program k ih => exact fun h => h.imp (fun ⟨h1, h2⟩ => ⟨show (k K.V).bind f = (k K.P).bind f by rw [h1], ih _ h2⟩) fun h => h.bind
  | mark m k ih => exact fun ⟨h1, h2⟩ => ⟨h1, ih h2⟩
  | halt => exact id
end

/-- 'v': the world in which all that is foreign is emptied; 'w': the true one. -/
structure Pois (K : Cfg) (F : Nat → Prop) (v w : World) : Prop where
  size : v.heap.size = w.heap.size
  os : v.os = w.os
  output : v.output = w.output
  same : ∀ b, ¬ F b → (∀ t, v.heap[b]? ≠ some (deadV b t)) → v.heap[b]? = w.heap[b]?
  /-- Where v holds a view of itself. -/
  odd : ∀ b t, v.heap[b]? = some (deadV b t) → ¬ F b ∧ ∃ o, w.heap[b]? = some o ∧ OddIn K b t o
  foreign : ∀ b, F b → ∃ t fz, v.heap[b]? = some (.cells #[] t fz)
  frozen : ∀ a : Addr, F a.block → w.frozen? a = v.frozen? a
  tame : ∀ (b : Nat) (o : Obj), v.heap[b]? = some o → TameAt K b o
  /-- What is foreign and can be come to is a row of cells in truth too. -/
  row : ∀ b t fz, F b → PFb K b → v.heap[b]? = some (.cells #[] t fz) → ∃ c fz', w.heap[b]? = some (.cells c t fz')
  /-- What is not foreign and is no row of cells is new, or may be looked at. -/
  own : ∀ b, ¬ F b → v.shape? b = none → K.gr = true ∨ K.B ≤ b
  fb : ∀ b, F b → b < K.B
  /-- Where objects may not be looked at, no good address leads to what is foreign. -/
  disj : K.gr = false → ∀ b, F b → ¬ K.G b
  sz : K.B ≤ v.heap.size

theorem TameO.obj {K : Cfg} {o : Obj} (h : TameO K o) {b : Nat} (hg : K.gr = true ∨ K.B ≤ b) : K.gr = true ∨ (K.B ≤ b ∧ o.isChan = false) := by
  cases hr : K.gr with
  | true => exact .inl rfl
  | false =>
    refine .inr ⟨hg.resolve_left (by simp [hr]), ?_⟩
    cases o <;> first | rfl | exact absurd h (by simp [TameO, hr])
/-- What a tame run lists. -/
def EvT (K : Cfg) (F : Nat → Prop) (n : Nat) (e : Event) : Prop :=
  match e.loc with
  | .cell a => a.block < n ∧ ¬ F a.block ∧ e.sync = false
  | .obj r => r < n ∧ ¬ F r ∧ (K.gr = true ∨ (K.B ≤ r ∧ e.sync = false))
  | .mark m => (K.gr = true ∧ m = .noRoom) ∨ ∃ f, m = .extern f
  | _ => False
theorem EvT.mono {K : Cfg} {F : Nat → Prop} {n m : Nat} {e : Event} (h : EvT K F n e) (hnm : n ≤ m) : EvT K F m e := by
  unfold EvT at h ⊢
  split at h
  · exact ⟨Nat.lt_of_lt_of_le h.1 hnm, h.2⟩
  · exact ⟨Nat.lt_of_lt_of_le h.1 hnm, h.2⟩
  · exact h
  · exact h

def wOf {α : Type} : Result α → World
  | .ok _ w => w
  | .halt _ w => w
def withW {α : Type} (w : World) : Result α → Result α
  | .ok a _ => .ok a w
  | .halt h _ => .halt h w
def okA {α : Type} (A : α → Prop) : Result α → Prop
  | .ok a _ => A a
  | .halt .. => True

/-- What stands between two such runs' ends. -/
structure Alike (K : Cfg) (F : Nat → Prop) (v w v' w' : World) (es es' : Array Event) : Prop where
  pois : Pois K F v' w'
  vt : v'.tape = v.tape
  wt : w'.tape = w.tape ∧ w'.os = w.os ∧ w'.output = w.output
  drawn : ∃ c, v'.drawn = v.drawn + c ∧ w'.drawn = w.drawn + c
  size : v.heap.size ≤ v'.heap.size
  keep : ∀ b, F b → w'.heap[b]? = w.heap[b]?
  ev : ∀ e ∈ es', e ∈ es ∨ EvT K F v'.heap.size e

section
variable {K : Cfg} {F : Nat → Prop} {v w : World}
theorem Pois.lt (h : Pois K F v w) {b : Nat} (hb : b < v.heap.size) : b < w.heap.size := h.size ▸ hb
theorem Pois.cell (h : Pois K F v w) {a : Addr} {x : Value} (hx : v.cell? a = some x) : w.cell? a = some x ∧ ¬ F a.block ∧ a.block < v.heap.size := by
  have hF : ¬ F a.block := fun hF => by
    obtain ⟨t, fz, hb⟩ := h.foreign _ hF
    simp only [World.cell?, hb] at hx
    split at hx <;> simp at hx
  refine ⟨?_, hF, World.block_lt_of_cell? v _ hx⟩
  have hnd : ∀ t, v.heap[a.block]? ≠ some (deadV a.block t) := fun t e => by simp [World.cell?, e, deadV] at hx
  simp only [World.cell?] at hx ⊢
  rw [← h.same _ hF hnd]
  exact hx
theorem seen_dead {v : World} {b : Nat} {t : TypeId} (hb : v.heap[b]? = some (deadV b t)) (p : Program) (u : TypeId) (k : Addr) (m : Bool) : ∃ why, v.seen p ⟨b, 0, none⟩ u k m = .error why := by
  unfold World.seen
  simp only [hb, deadV]
  repeat' split
  all_goals exact ⟨_, rfl⟩
theorem load_dead {v : World} {b : Nat} {t : TypeId} (hb : v.heap[b]? = some (deadV b t)) (p : Program) (u : TypeId) (k : Addr) (m : Bool) : ∃ why, v.viewLoad p ⟨b, 0, none⟩ u k m = .error why := by
  obtain ⟨why, e⟩ := seen_dead hb p u k m
  exact ⟨why, by unfold World.viewLoad; rw [e]; rfl⟩
theorem store_dead {v : World} {b : Nat} {t : TypeId} (hb : v.heap[b]? = some (deadV b t)) (p : Program) (u : TypeId) (k : Addr) (x : Value) (m : Bool) : ∃ why, v.viewStore p ⟨b, 0, none⟩ u k x m = .error why := by
  obtain ⟨why, e⟩ := seen_dead hb p u k m
  unfold World.viewStore
  rw [e]
  cases tight p p.depth u <;> exact ⟨_, rfl⟩
theorem far_dead {K : Cfg} {v : World} (h : ∀ (b : Nat) (o : Obj), v.heap[b]? = some o → TameAt K b o) (p : Program) (a : Addr) (m : Bool) : ∃ k, v.farLoad p a m = .error k ∧ HaltOk k ∧ ∀ x, k ≠ .panic x := by
  unfold World.farLoad
  split
  · rename_i at_ u hb
    rcases h _ _ hb with h | ⟨_, t, h⟩
    · exact h.elim
    · cases h
      obtain ⟨why, e⟩ := load_dead (t := 0) hb p 0 a m
      rw [e]
      exact ⟨_, rfl, trivial, fun x h => by cases h⟩
  · rename_i hb
    refine ⟨_, rfl, ?_, fun x hx => ?_⟩
    · unfold World.noCell
      split
      · rename_i hb2
        rcases h _ _ hb2 with h | ⟨_, t, h⟩
        · exact h.elim
        · cases h
      · trivial
      · trivial
    · unfold World.noCell at hx
      split at hx <;> cases hx
theorem farS_dead {K : Cfg} {v : World} (h : ∀ (b : Nat) (o : Obj), v.heap[b]? = some o → TameAt K b o) (p : Program) (a : Addr) (x : Value) (m : Bool) : ∃ k, v.farStore p a x m = .error k ∧ HaltOk k ∧ ∀ x, k ≠ .panic x := by
  unfold World.farStore
  split
  · rename_i at_ u hb
    rcases h _ _ hb with h | ⟨_, t, h⟩
    · exact h.elim
    · cases h
      obtain ⟨why, e⟩ := store_dead (t := 0) hb p 0 a x m
      rw [e]
      exact ⟨_, rfl, trivial, fun x h => by cases h⟩
  · rename_i hb
    refine ⟨_, rfl, ?_, fun x hx => ?_⟩
    · unfold World.noCell
      split
      · rename_i hb2
        rcases h _ _ hb2 with h | ⟨_, t, h⟩
        · exact h.elim
        · cases h
      · trivial
      · trivial
    · unfold World.noCell at hx
      split at hx <;> cases hx
theorem Pois.nofar (h : Pois K F v w) (P : Program) (a : Addr) (m : Bool) : ∃ k, v.farLoad P a m = .error k ∧ (∀ x, k ≠ .panic x) :=
  let ⟨k, h1, _, h2⟩ := far_dead h.tame P a m; ⟨k, h1, h2⟩
theorem Pois.nofarS (h : Pois K F v w) (P : Program) (a : Addr) (x : Value) (m : Bool) : ∃ k, v.farStore P a x m = .error k ∧ (∀ x, k ≠ .panic x) :=
  let ⟨k, h1, _, h2⟩ := farS_dead h.tame P a x m; ⟨k, h1, h2⟩
theorem Pois.same' (h : Pois K F v w) {b : Nat} (hF : ¬ F b) : v.heap[b]? = w.heap[b]? ∨ ∃ t o, v.heap[b]? = some (deadV b t) ∧ w.heap[b]? = some o ∧ oddO o := by
  by_cases hd : ∃ t, v.heap[b]? = some (deadV b t)
  · obtain ⟨t, e⟩ := hd
    obtain ⟨_, o, h1, h2⟩ := h.odd b t e
    exact .inr ⟨t, o, e, h1, h2.odd⟩
  · exact .inl (h.same b hF fun t e => hd ⟨t, e⟩)
theorem odd_shape {w : World} {b : Nat} {o : Obj} (h : w.heap[b]? = some o) (ho : oddO o) : w.shape? b = none := by
  simp only [World.shape?, h]
  cases o <;> first | rfl | exact ho.elim
theorem odd_frozen {w : World} {a : Addr} {o : Obj} (h : w.heap[a.block]? = some o) (ho : oddO o) : w.frozen? a = false := by
  simp only [World.frozen?, h]
  cases o <;> first | rfl | exact ho.elim
theorem Pois.shape (h : Pois K F v w) {b : Nat} (hF : ¬ F b) : w.shape? b = v.shape? b := by
  rcases h.same' hF with e | ⟨t, o, e1, e2, e3⟩
  · simp only [World.shape?]; rw [e]
  · rw [odd_shape e2 e3, odd_shape (o := deadV b t) e1 trivial]
theorem Pois.frz (h : Pois K F v w) (a : Addr) : w.frozen? a = v.frozen? a := by
  by_cases hF : F a.block
  · exact h.frozen a hF
  · rcases h.same' hF with e | ⟨t, o, e1, e2, e3⟩
    · simp only [World.frozen?]
      rw [e]
    · rw [odd_frozen e2 e3, odd_frozen (o := deadV a.block t) e1 trivial]
theorem frozen_setCell (w : World) (a b : Addr) (x : Value) : (w.setCell a x).frozen? b = w.frozen? b := by
  simp only [World.frozen?, World.setCell, Array.getElem?_modify]
  by_cases e : a.block = b.block
  · rw [if_pos e]
    cases h : w.heap[b.block]? with
    | none => simp
    | some o => cases o <;> simp
  · rw [if_neg e]
theorem mem_setIf {c : Array Value} {i : Nat} {x y : Value} (h : y ∈ c.setIfInBounds i x) : y = x ∨ y ∈ c := by
  obtain ⟨j, hj⟩ := Array.mem_iff_getElem?.1 h
  rw [Array.getElem?_setIfInBounds] at hj
  split at hj
  · split at hj
    · exact .inl (Option.some.inj hj).symm
    · cases hj
  · exact .inr (Array.mem_iff_getElem?.2 ⟨j, hj⟩)
theorem shape_setCell (w : World) (a : Addr) (x : Value) (b : Nat) : (w.setCell a x).shape? b = w.shape? b := by
  simp only [World.shape?, World.setCell, Array.getElem?_modify]
  by_cases e : a.block = b
  · rw [if_pos e]
    cases h : w.heap[b]? with
    | none => simp
    | some o =>
      cases o with
      | cells c t fz =>
        simp only [Option.map_some]
        split <;> simp
      | _ => simp
  · rw [if_neg e]
theorem Pois.setCell (h : Pois K F v w) {a : Addr} (hF : ¬ F a.block) {x : Value} (hx : PFv K x) : Pois K F (v.setCell a x) (w.setCell a x) where
  size := by simp [World.setCell, h.size]
  os := h.os
  output := h.output
  same b hb hd := by
    have hd' : ∀ t, v.heap[b]? ≠ some (deadV b t) := fun t e => hd t (by
      simp only [World.setCell, Array.getElem?_modify, e]
      split <;> rfl)
    simp only [World.setCell, Array.getElem?_modify]
    rw [h.same b hb hd']
  odd b t hb := by
    have hv : v.heap[b]? = some (deadV b t) := by
      simp only [World.setCell, Array.getElem?_modify] at hb
      split at hb
      · obtain ⟨o', ho', e⟩ := Option.map_eq_some_iff.1 hb
        rw [ho']
        cases o' with
        | cells c u fz => cases e
        | _ => exact congrArg some e
      · exact hb
    obtain ⟨h2, o, h3, h4⟩ := h.odd b t hv
    refine ⟨h2, o, ?_, h4⟩
    simp only [World.setCell, Array.getElem?_modify, h3]
    split
    · have h5 := h4.odd
      cases o <;> first | rfl | exact h5.elim
    · rfl
  foreign b hb := by
    have hne : a.block ≠ b := fun e => hF (e ▸ hb)
    simp only [World.setCell, Array.getElem?_modify, if_neg hne]
    exact h.foreign b hb
  frozen b hb := by rw [frozen_setCell, frozen_setCell]; exact h.frozen b hb
  tame b o ho := by
    simp only [World.setCell, Array.getElem?_modify] at ho
    split at ho
    · obtain ⟨o', ho', rfl⟩ := Option.map_eq_some_iff.1 ho
      have h0 := h.tame _ _ ho'
      cases o' with
      | cells c t fz =>
        refine .inl ?_
        replace h0 : ∀ y ∈ c, PFv K y := h0.elim id fun ⟨_, t, e⟩ => by cases e
        show ∀ y ∈ (if a.spot.isSome then c else c.setIfInBounds a.off x), PFv K y
        split
        · exact h0
        · exact fun y hy => (mem_setIf hy).elim (fun e => e ▸ hx) (h0 y)
      | _ => exact h0
    · exact h.tame b o ho
  row b t fz hb hg := by
    have hne : a.block ≠ b := fun e => hF (e ▸ hb)
    simp only [World.setCell, Array.getElem?_modify, if_neg hne]
    exact h.row b t fz hb hg
  own b hb hs := h.own b hb (by rw [shape_setCell] at hs; exact hs)
  fb := h.fb
  disj := h.disj
  sz := by simpa [World.setCell] using h.sz
theorem Pois.push (h : Pois K F v w) (hF : ¬ F v.heap.size) {o : Obj} (ho : TameO K o) : Pois K F { v with heap := v.heap.push o } { w with heap := w.heap.push o } where
  size := by simp [h.size]
  os := h.os
  output := h.output
  same b hb hd := by
    simp only [Array.getElem?_push, h.size] at hd ⊢
    split
    · rfl
    · rename_i hne
      exact h.same b hb fun t e => hd t (by rw [if_neg hne]; exact e)
  odd b t hb := by
    simp only [Array.getElem?_push] at hb
    split at hb
    · cases hb
      exact ho.elim
    · rename_i hne
      obtain ⟨h2, o', h3, h4⟩ := h.odd b t hb
      refine ⟨h2, o', ?_, h4⟩
      simp only [Array.getElem?_push]
      rw [if_neg (h.size ▸ hne)]
      exact h3
  foreign b hb := by
    have hne : b ≠ v.heap.size := fun e => hF (e ▸ hb)
    simp only [Array.getElem?_push, if_neg hne]
    exact h.foreign b hb
  frozen b hb := by
    have hne : b.block ≠ v.heap.size := fun e => hF (e ▸ hb)
    have hnw : b.block ≠ w.heap.size := h.size ▸ hne
    have := h.frozen b hb
    simpa [World.frozen?, Array.getElem?_push, if_neg hne, if_neg hnw] using this
  tame b o' ho' := by
    simp only [Array.getElem?_push] at ho'
    split at ho'
    · cases ho'; exact .inl ho
    · exact h.tame b o' ho'
  row b t fz hb hg := by
    have hne : b ≠ w.heap.size := fun e => hF (by rw [h.size, ← e]; exact hb)
    have hnv : b ≠ v.heap.size := fun e => hF (by rw [← e]; exact hb)
    simp only [Array.getElem?_push, if_neg hne, if_neg hnv]
    exact h.row b t fz hb hg
  own b hb hs := by
    by_cases hne : b = v.heap.size
    · exact .inr (hne ▸ h.sz)
    · refine h.own b hb ?_
      simpa [World.shape?, Array.getElem?_push, if_neg hne] using hs
  fb := h.fb
  disj := h.disj
  sz := by have := h.sz; simp; omega
theorem Pois.set (h : Pois K F v w) (hgr : K.gr = true) {r : Nat} (hF : ¬ F r) {o : Obj} (ho : TameO K o) : Pois K F { v with heap := v.heap.setIfInBounds r o } { w with heap := w.heap.setIfInBounds r o } where
  size := by simp [h.size]
  os := h.os
  output := h.output
  same b hb hd := by
    simp only [Array.getElem?_setIfInBounds, h.size] at hd ⊢
    split
    · rfl
    · rename_i hne
      exact h.same b hb fun t e => hd t (by rw [if_neg hne]; exact e)
  odd b t hb := by
    simp only [Array.getElem?_setIfInBounds] at hb
    split at hb
    · split at hb
      · cases hb; exact ho.elim
      · cases hb
    · rename_i hne
      obtain ⟨h2, o', h3, h4⟩ := h.odd b t hb
      refine ⟨h2, o', ?_, h4⟩
      simp only [Array.getElem?_setIfInBounds]
      rw [if_neg hne]
      exact h3
  foreign b hb := by
    have hne : r ≠ b := fun e => hF (e ▸ hb)
    simp only [Array.getElem?_setIfInBounds, if_neg hne]
    exact h.foreign b hb
  frozen b hb := by
    have hne : r ≠ b.block := fun e => hF (e ▸ hb)
    have := h.frozen b hb
    simpa [World.frozen?, Array.getElem?_setIfInBounds, if_neg hne] using this
  tame b o' ho' := by
    simp only [Array.getElem?_setIfInBounds] at ho'
    split at ho'
    · split at ho'
      · cases ho'; exact .inl ho
      · cases ho'
    · exact h.tame b o' ho'
  row b t fz hb hg := by
    have hne : r ≠ b := fun e => hF (e ▸ hb)
    simp only [Array.getElem?_setIfInBounds, if_neg hne]
    exact h.row b t fz hb hg
  own b hb hs := .inl hgr
  fb := h.fb
  disj := h.disj
  sz := by simpa using h.sz
theorem Pois.draw (h : Pois K F v w) (c d : Nat) : Pois K F { v with drawn := c } { w with drawn := d } :=
  ⟨h.size, h.os, h.output, h.same, h.odd, h.foreign, h.frozen, h.tame, h.row, h.own, h.fb, h.disj, h.sz⟩
end

/-- No such object lies there. -/
def TameH (K : Cfg) (v : World) : Prop := ∀ (b : Nat) (o : Obj), v.heap[b]? = some o → TameAt K b o
theorem TameH.setCell {K : Cfg} {v : World} (h : TameH K v) (a : Addr) {x : Value} (hx : PFv K x) : TameH K (v.setCell a x) := fun b o ho => by
  simp only [World.setCell, Array.getElem?_modify] at ho
  split at ho
  · obtain ⟨o', ho', rfl⟩ := Option.map_eq_some_iff.1 ho
    have h0 := h _ _ ho'
    cases o' with
    | cells c t fz =>
      refine .inl ?_
      replace h0 : ∀ y ∈ c, PFv K y := h0.elim id fun ⟨_, t, e⟩ => by cases e
      show ∀ y ∈ (if a.spot.isSome then c else c.setIfInBounds a.off x), PFv K y
      split
      · exact h0
      · exact fun y hy => (mem_setIf hy).elim (fun e => e ▸ hx) (h0 y)
    | _ => exact h0
  · exact h b o ho
theorem TameH.push {K : Cfg} {v : World} (h : TameH K v) {o : Obj} (ho : TameO K o) : TameH K { v with heap := v.heap.push o } := fun b o' ho' => by
  simp only [Array.getElem?_push] at ho'
  split at ho'
  · cases ho'; exact .inl ho
  · exact h b o' ho'
theorem TameH.set {K : Cfg} {v : World} (h : TameH K v) (r : Nat) {o : Obj} (ho : TameO K o) : TameH K { v with heap := v.heap.setIfInBounds r o } := fun b o' ho' => by
  simp only [Array.getElem?_setIfInBounds] at ho'
  split at ho'
  · split at ho'
    · cases ho'; exact .inl ho
    · cases ho'
  · exact h b o' ho'
theorem TameH.cell {K : Cfg} {v : World} (h : TameH K v) {a : Addr} {x : Value} (hx : v.cell? a = some x) : PFv K x := by
  simp only [World.cell?] at hx
  split at hx
  · rename_i c t fz hb
    split at hx
    · cases hx
    · have h0 : ∀ y ∈ c, PFv K y := (h _ _ hb).elim id fun ⟨_, t, e⟩ => by cases e
      exact h0 x (Array.mem_iff_getElem?.2 ⟨_, hx⟩)
  · cases hx
/-- A world in which tame meanings run. -/
structure VOk (K : Cfg) (v : World) : Prop where
  tame : TameH K v
  shp : ∀ b, v.shape? b = none → K.gr = true ∨ K.B ≤ b
  sz : K.B ≤ v.heap.size
theorem Pois.vok {K : Cfg} {F : Nat → Prop} {v w : World} (h : Pois K F v w) : VOk K v := ⟨h.tame, fun b hb => by
  by_cases hF : F b
  · obtain ⟨t, fz, e⟩ := h.foreign b hF
    simp [World.shape?, e] at hb
  · exact h.own b hF hb, h.sz⟩
theorem VOk.setCell {K : Cfg} {v : World} (h : VOk K v) (a : Addr) {x : Value} (hx : PFv K x) : VOk K (v.setCell a x) := ⟨h.tame.setCell a hx, fun b hb => h.shp b (by rwa [shape_setCell] at hb), by simpa [World.setCell] using h.sz⟩
theorem VOk.push {K : Cfg} {v : World} (h : VOk K v) {o : Obj} (ho : TameO K o) : VOk K { v with heap := v.heap.push o } := ⟨h.tame.push ho, fun b hb => by
  by_cases hne : b = v.heap.size
  · exact .inr (hne ▸ h.sz)
  · exact h.shp b (by simpa [World.shape?, Array.getElem?_push, if_neg hne] using hb), by have := h.sz; simp; omega⟩
theorem VOk.set {K : Cfg} {v : World} (h : VOk K v) (hg : K.gr = true) (r : Nat) {o : Obj} (ho : TameO K o) : VOk K { v with heap := v.heap.setIfInBounds r o } := ⟨h.tame.set r ho, fun _ _ => .inl hg, by simpa using h.sz⟩
theorem dead_run {α : Type} {V : Program} : ∀ {s : Sem α}, Dead s → ∀ (v : World) (es : Array Event), ∃ h es', s.runT V v es = (.halt h v, es') ∧ HaltOk h ∧ ∀ x, h ≠ .panic x := by
  intro s
  induction s with
  | mark m k ih => exact fun h v es => ih h v _
  | halt h =>
    intro hd v es
    cases h with
    | stuck m => exact ⟨_, es, rfl, trivial, by simp⟩
    | unsupported u => cases u <;> first | exact hd.elim | exact ⟨_, es, rfl, trivial, by simp⟩
    | _ => exact hd.elim
  | _ => exact False.elim
theorem tame_drawn {K : Cfg} {α : Type} {A : α → Prop} : ∀ {s : Sem α}, Tame K A s → ∀ (v : World) (es : Array Event) (r : Result α) (es' : Array Event), VOk K v → s.runT K.V v es = (r, es') → v.drawn ≤ (wOf r).drawn ∧ ∀ h u, r = .halt h u → HaltOk h := by
  intro s
  induction s with
  | pure a =>
    rintro - v es r es' hv hr
    simp only [Sem.runT, Prod.mk.injEq] at hr
    obtain ⟨rfl, rfl⟩ := hr
    exact ⟨Nat.le_refl _, fun h u e => by cases e⟩
  | load m a k ih =>
    rintro ⟨hm, hk⟩ v es r es' hv hr
    simp only [Sem.runT] at hr
    split at hr
    · rename_i x hx
      exact ih _ (hk _ (hv.tame.cell hx)) v _ r es' hv hr
    · split at hr
      · rename_i hf
        obtain ⟨k0, e0, _⟩ := far_dead hv.tame K.V a (m == .atomic)
        rw [hf] at e0
        cases e0
      · rename_i k' hf
        simp only [Prod.mk.injEq] at hr
        obtain ⟨rfl, rfl⟩ := hr
        refine ⟨Nat.le_refl _, fun h u e => ?_⟩
        cases e
        obtain ⟨k0, e0, e1, _⟩ := far_dead hv.tame K.V a (m == .atomic)
        rw [hf] at e0
        cases e0
        exact e1
  | store m a x k ih =>
    rintro ⟨hm, hx, hk⟩ v es r es' hv hr
    have key : (∀ xs, x ≠ .agg xs) → (∀ xs, x ≠ .tuple xs) → v.drawn ≤ (wOf r).drawn ∧ ∀ h u, r = .halt h u → HaltOk h := by
      intro h1 h2
      rw [Sem.runT] at hr
      · split at hr
        · split at hr
          · simp only [Prod.mk.injEq] at hr; obtain ⟨rfl, rfl⟩ := hr; exact ⟨Nat.le_refl _, fun h u e => by cases e; trivial⟩
          · exact ih hk (v.setCell a x) _ r es' (hv.setCell a hx) hr
        · split at hr
          · rename_i hf
            obtain ⟨k0, e0, _⟩ := farS_dead hv.tame K.V a x (m == .atomic)
            rw [hf] at e0
            cases e0
          · rename_i k' hf
            simp only [Prod.mk.injEq] at hr
            obtain ⟨rfl, rfl⟩ := hr
            refine ⟨Nat.le_refl _, fun h u e => ?_⟩
            cases e
            obtain ⟨k0, e0, e1, _⟩ := farS_dead hv.tame K.V a x (m == .atomic)
            rw [hf] at e0
            cases e0
            exact e1
      · exact h1
      · exact h2
    cases x with
    | agg xs => simp only [Sem.runT, Prod.mk.injEq] at hr; obtain ⟨rfl, rfl⟩ := hr; exact ⟨Nat.le_refl _, fun h u e => by cases e; trivial⟩
    | tuple xs => simp only [Sem.runT, Prod.mk.injEq] at hr; obtain ⟨rfl, rfl⟩ := hr; exact ⟨Nat.le_refl _, fun h u e => by cases e; trivial⟩
    | _ => exact key (by intro _ h; cases h) (by intro _ h; cases h)
  | new o k ih =>
    rintro ⟨ho, hk⟩ v es r es' hv hr
    simp only [Sem.runT] at hr
    exact ih _ (hk _ hv.sz) { v with heap := v.heap.push o } _ r es' (hv.push ho) hr
  | shape b k ih =>
    rintro ⟨_, _, h3, h4⟩ v es r es' hv hr
    simp only [Sem.runT] at hr
    cases hs : v.shape? b with
    | none => rw [hs] at hr; exact ih _ (h4 (hv.shp b hs)) v _ r es' hv hr
    | some x => rw [hs] at hr; exact ih _ (h3 x.1 x.2) v _ r es' hv hr
  | freeze => exact False.elim
  | frozen a k ih =>
    rintro hk v es r es' hv hr
    simp only [Sem.runT] at hr
    exact ih _ (hk _) v _ r es' hv hr
  | getObj b k ih =>
    rintro ⟨hg, hk, hkd⟩ v es r es' hv hr
    simp only [Sem.runT] at hr
    split at hr
    · simp only [Prod.mk.injEq] at hr; obtain ⟨rfl, rfl⟩ := hr; exact ⟨Nat.le_refl _, fun h u e => by cases e; trivial⟩
    · rename_i ho
      refine ih _ ?_ v _ r es' hv hr
      rcases hv.tame _ _ ho with h | ⟨h, t, rfl⟩
      · exact hk _ h
      · exact (hkd h t).1
    · simp only [Prod.mk.injEq] at hr; obtain ⟨rfl, rfl⟩ := hr; exact ⟨Nat.le_refl _, fun h u e => by cases e; trivial⟩
  | setObj b o k ih =>
    rintro ⟨hg, hto, hk⟩ v es r es' hv hr
    simp only [Sem.runT] at hr
    split at hr
    · simp only [Prod.mk.injEq] at hr; obtain ⟨rfl, rfl⟩ := hr; exact ⟨Nat.le_refl _, fun h u e => by cases e; trivial⟩
    · exact ih hk { v with heap := v.heap.setIfInBounds b o } _ r es' (hv.set hg b hto) hr
    · simp only [Prod.mk.injEq] at hr; obtain ⟨rfl, rfl⟩ := hr; exact ⟨Nat.le_refl _, fun h u e => by cases e; trivial⟩
  | choose q k ih =>
    rintro ⟨hq, hk⟩ v es r es' hv hr
    simp only [Sem.runT] at hr
    split at hr
    · exact ih _ (hk _) v _ r es' hv hr
    · obtain ⟨h1, h2⟩ := ih _ (hk _) { v with drawn := v.drawn + 1 } _ r es' ⟨hv.tame, hv.shp, hv.sz⟩ hr
      exact ⟨Nat.le_of_succ_le h1, h2⟩
  | sys => exact False.elim
  | program k ih =>
    rintro hk v es r es' hv hr
    simp only [Sem.runT] at hr
    rcases hk with ⟨h1, hk⟩ | hd
    · rw [h1] at hr
      exact ih _ hk v _ r es' hv hr
    · obtain ⟨h, es2, e, h2, _⟩ := dead_run (V := K.V) hd v es
      rw [e] at hr
      simp only [Prod.mk.injEq] at hr
      obtain ⟨rfl, rfl⟩ := hr
      exact ⟨Nat.le_refl _, fun h' u e => by cases e; exact h2⟩
  | mark m k ih =>
    rintro ⟨hm, hk⟩ v es r es' hv hr
    simp only [Sem.runT] at hr
    exact ih hk v _ r es' hv hr
  | halt h =>
    rintro hh v es r es' hv hr
    simp only [Sem.runT, Prod.mk.injEq] at hr
    obtain ⟨rfl, rfl⟩ := hr
    exact ⟨Nat.le_refl _, fun h u e => by cases e; exact hh⟩

/-- ████ A TAME MEANING RUNS ALIKE. ████ -/
theorem tame_run {K : Cfg} {α : Type} {A : α → Prop} {F : Nat → Prop} : ∀ {s : Sem α}, Tame K A s → ∀ (v w : World) (es : Array Event) (r : Result α) (es' : Array Event),
    Pois K F v w → s.runT K.V v es = (r, es') → Clean r → (∀ i, v.drawn + i < (wOf r).drawn → v.tape (v.drawn + i) = w.tape (w.drawn + i)) →
    ∃ w', s.runT K.P w es = (withW w' r, es') ∧ okA A r ∧ Alike K F v w (wOf r) w' es es' := by
  intro s
  induction s with
  | pure a =>
    rintro hA v w es r es' hp hr - -
    simp only [Sem.runT, Prod.mk.injEq] at hr
    obtain ⟨rfl, rfl⟩ := hr
    exact ⟨w, rfl, hA, hp, rfl, ⟨rfl, rfl, rfl⟩, ⟨0, rfl, rfl⟩, Nat.le_refl _, fun _ _ => rfl, fun e he => .inl he⟩
  | load m a k ih =>
    rintro ⟨hm, hk⟩ v w es r es' hp hr hc ht
    subst hm
    simp only [Sem.runT] at hr ⊢
    cases hx : v.cell? a with
    | none =>
      obtain ⟨h, hf, hnp⟩ := hp.nofar K.V a (Mode.plain == .atomic)
      simp only [hx, hf, Prod.mk.injEq] at hr
      obtain ⟨rfl, rfl⟩ := hr
      cases h <;> first | exact hc.elim | exact absurd rfl (hnp _)
    | some x =>
      obtain ⟨hw, hF, hlt⟩ := hp.cell hx
      simp only [hx, hw] at hr ⊢
      obtain ⟨w', e1, e2, e3⟩ := ih x (hk x (Pois.vok hp |>.tame.cell hx)) v w _ r es' hp hr hc ht
      refine ⟨w', e1, e2, ⟨e3.pois, e3.vt, e3.wt, e3.drawn, e3.size, e3.keep, fun e he => ?_⟩⟩
      rcases e3.ev e he with h | h
      · rcases Array.mem_push.1 h with h | rfl
        · exact .inl h
        · exact .inr ⟨Nat.lt_of_lt_of_le hlt e3.size, hF, rfl⟩
      · exact .inr h
  | store m a x k ih =>
    rintro ⟨hm, hxv, hk⟩ v w es r es' hp hr hc ht
    subst hm
    have key : (∀ xs, x ≠ .agg xs) → (∀ xs, x ≠ .tuple xs) → ∃ w', (Sem.store .plain a x k).runT K.P w es = (withW w' r, es') ∧ okA A r ∧ Alike K F v w (wOf r) w' es es' := by
      intro h1 h2
      rw [Sem.runT] at hr ⊢
      · cases hx : v.cell? a with
        | none =>
          obtain ⟨h, hf, hnp⟩ := hp.nofarS K.V a x (Mode.plain == .atomic)
          simp only [hx, hf, Prod.mk.injEq] at hr
          obtain ⟨rfl, rfl⟩ := hr
          cases h <;> first | exact hc.elim | exact absurd rfl (hnp _)
        | some y =>
          obtain ⟨hw, hF, hlt⟩ := hp.cell hx
          simp only [hx, hw, hp.frz] at hr ⊢
          split at hr
          · simp only [Prod.mk.injEq] at hr
            obtain ⟨rfl, rfl⟩ := hr
            exact hc.elim
          · rename_i hfz
            rw [if_neg hfz]
            obtain ⟨w', e1, e2, e3⟩ := ih hk (v.setCell a x) (w.setCell a x) _ r es' (hp.setCell hF hxv) hr hc ht
            refine ⟨w', e1, e2, ⟨e3.pois, e3.vt, e3.wt, e3.drawn, by have := e3.size; simpa [World.setCell] using this, fun b hb' => ?_, fun e he => ?_⟩⟩
            · rw [e3.keep b hb']
              have hne : a.block ≠ b := fun e => hF (e ▸ hb')
              simp only [World.setCell, Array.getElem?_modify, if_neg hne]
            · rcases e3.ev e he with h | h
              · rcases Array.mem_push.1 h with h | rfl
                · exact .inl h
                · refine .inr ⟨Nat.lt_of_lt_of_le hlt ?_, hF, rfl⟩
                  have := e3.size
                  simpa [World.setCell] using this
              · exact .inr h
      · exact h1
      · exact h2
      · exact h1
      · exact h2
    cases x with
    | agg xs => simp only [Sem.runT, Prod.mk.injEq] at hr; obtain ⟨rfl, rfl⟩ := hr; exact hc.elim
    | tuple xs => simp only [Sem.runT, Prod.mk.injEq] at hr; obtain ⟨rfl, rfl⟩ := hr; exact hc.elim
    | _ => exact key (by intro _ h; cases h) (by intro _ h; cases h)
  | new o k ih =>
    rintro ⟨ho, hk⟩ v w es r es' hp hr hc ht
    simp only [Sem.runT] at hr ⊢
    have hF : ¬ F v.heap.size := fun h => by have := hp.fb _ h; have := hp.sz; omega
    rw [← hp.size]
    obtain ⟨w', e1, e2, e3⟩ := ih v.heap.size (hk _ hp.sz) _ { w with heap := w.heap.push o } es r es' (hp.push hF ho) hr hc ht
    refine ⟨w', e1, e2, ⟨e3.pois, e3.vt, e3.wt, e3.drawn, by have := e3.size; simp at this; omega, fun b hb' => ?_, e3.ev⟩⟩
    rw [e3.keep b hb']
    have hne : b ≠ w.heap.size := fun e => hF (by rw [hp.size, ← e]; exact hb')
    simp [Array.getElem?_push, if_neg hne]
  | shape q k ih =>
    rintro ⟨hg, hins, h3, h4⟩ v w es r es' hp hr hc ht
    simp only [Sem.runT] at hr ⊢
    by_cases hF : F q
    · obtain ⟨t, fz, e1⟩ := hp.foreign q hF
      obtain ⟨c, fz', e2⟩ := hp.row q t fz hF hg e1
      have s1 : v.shape? q = some (t, 0) := by simp [World.shape?, e1]
      have s2 : w.shape? q = some (t, c.size) := by simp [World.shape?, e2]
      rw [s1] at hr
      rw [s2]
      rcases hins with hins | hins | hins
      · exact (hp.disj hins q hF (hg.resolve_left id)).elim
      · have := hp.fb q hF; omega
      · rcases hins t c.size with e | e
        · rw [← e]
          exact ih _ (h3 t 0) v w es r es' hp hr hc ht
        · have := e v es
          rw [hr] at this
          exact absurd hc this
    · have e : w.shape? q = v.shape? q := hp.shape hF
      rw [e]
      cases hs : v.shape? q with
      | none => rw [hs] at hr; exact ih _ (h4 (hp.own q hF hs)) v w es r es' hp hr hc ht
      | some x => rw [hs] at hr; exact ih _ (h3 x.1 x.2) v w es r es' hp hr hc ht
  | freeze => exact False.elim
  | frozen a k ih =>
    rintro hk v w es r es' hp hr hc ht
    simp only [Sem.runT, hp.frz] at hr ⊢
    exact ih _ (hk _) v w es r es' hp hr hc ht
  | getObj b k ih =>
    rintro ⟨hg, hk, hkd⟩ v w es r es' hp hr hc ht
    simp only [Sem.runT] at hr ⊢
    cases ho : v.heap[b]? with
    | none => simp only [ho, Prod.mk.injEq] at hr; obtain ⟨rfl, rfl⟩ := hr; exact hc.elim
    | some o =>
      have hlt : b < v.heap.size := (Array.getElem?_eq_some_iff.1 ho).1
      have hF : ¬ F b ∨ ∃ x y z, o = .cells x y z := by
        by_cases hF : F b
        · obtain ⟨t, fz, h⟩ := hp.foreign b hF
          rw [ho] at h
          exact .inr ⟨_, _, _, Option.some.inj h⟩
        · exact .inl hF
      have fin : ∀ {oo : Obj}, Tame K A (k oo) → (K.gr = true ∨ (K.B ≤ b ∧ oo.isChan = false)) → ¬ F b → (k oo).runT K.V v (es.push ⟨.obj b, false, oo.isChan⟩) = (r, es') → ∃ w', (k oo).runT K.P w (es.push ⟨.obj b, false, oo.isChan⟩) = (withW w' r, es') ∧ okA A r ∧ Alike K F v w (wOf r) w' es es' := fun {oo} htm hob hF hr => by
        obtain ⟨w', e1, e2, e3⟩ := ih oo htm v w _ r es' hp hr hc ht
        refine ⟨w', e1, e2, ⟨e3.pois, e3.vt, e3.wt, e3.drawn, e3.size, e3.keep, fun e he => ?_⟩⟩
        rcases e3.ev e he with h | h
        · rcases Array.mem_push.1 h with h | rfl
          · exact .inl h
          · exact .inr ⟨Nat.lt_of_lt_of_le hlt e3.size, hF, hob⟩
        · exact .inr h
      rcases hF with hF | ⟨x, y, z, rfl⟩
      · rcases hp.same' hF with e | ⟨t, o', e1, e2, e3⟩
        · rw [← e, ho]
          rw [ho] at hr
          rcases hp.tame b o ho with hto | ⟨hgr, t, rfl⟩
          · cases o with
            | cells => simp only [Prod.mk.injEq] at hr; obtain ⟨rfl, rfl⟩ := hr; exact hc.elim
            | _ =>
              rcases hg with hg | hg
              · exact fin (hk _ hto) (hto.obj hg) hF hr
              · exfalso
                have h8 := congrArg (fun z => Clean z.1) hr
                exact hg _ hto v _ (h8.mpr hc)
          · obtain ⟨_, o', e2, e3⟩ := hp.odd b t ho
            replace e3 := e3.odd
            rw [← e, ho] at e2
            cases e2
            exact fin (hkd hgr t).1 (.inl hgr) hF hr
        · rw [ho] at e1
          cases e1
          have hgr : K.gr = true := (hp.tame b _ ho).elim (fun h => h.elim) fun h => h.1
          rw [ho] at hr
          rw [e2]
          rcases (hkd hgr t).2 o' e3 with ek | ek
          · have hch : o'.isChan = false := by cases o' <;> first | rfl | exact e3.elim
            have hr' : (k (deadV b t)).runT K.V v (es.push ⟨.obj b, false, false⟩) = (r, es') := hr
            have h5 := fin (oo := deadV b t) (hkd hgr t).1 (.inl hgr) hF hr'
            rw [ek] at h5
            cases o' with
            | view => exact h5
            | pending => exact h5
            | loop => exact h5
            | _ => exact e3.elim
          · have hr' : (k (deadV b t)).runT K.V v (es.push ⟨.obj b, false, false⟩) = (r, es') := hr
            have := ek v (es.push ⟨.obj b, false, false⟩)
            rw [hr'] at this
            exact absurd hc this
      · simp only [ho, Prod.mk.injEq] at hr; obtain ⟨rfl, rfl⟩ := hr; exact hc.elim
  | setObj b o k ih =>
    rintro ⟨hg, hto, hk⟩ v w es r es' hp hr hc ht
    simp only [Sem.runT] at hr ⊢
    cases ho : v.heap[b]? with
    | none => simp only [ho, Prod.mk.injEq] at hr; obtain ⟨rfl, rfl⟩ := hr; exact hc.elim
    | some o0 =>
      have hlt : b < v.heap.size := (Array.getElem?_eq_some_iff.1 ho).1
      by_cases hF : F b
      · obtain ⟨t, fz, h⟩ := hp.foreign b hF
        simp only [h, Prod.mk.injEq] at hr
        obtain ⟨rfl, rfl⟩ := hr
        exact hc.elim
      · have fin : (k.runT K.V { v with heap := v.heap.setIfInBounds b o } (es.push ⟨.obj b, true, o.isChan⟩) = (r, es')) → ∃ w', k.runT K.P { w with heap := w.heap.setIfInBounds b o } (es.push ⟨.obj b, true, o.isChan⟩) = (withW w' r, es') ∧ okA A r ∧ Alike K F v w (wOf r) w' es es' := fun hr => by
          obtain ⟨w', e1, e2, e3⟩ := ih hk _ { w with heap := w.heap.setIfInBounds b o } _ r es' (hp.set hg hF hto) hr hc ht
          have hs : v.heap.size ≤ (wOf r).heap.size := by have := e3.size; simpa using this
          refine ⟨w', e1, e2, ⟨e3.pois, e3.vt, e3.wt, e3.drawn, hs, fun b' hb' => ?_, fun e he => ?_⟩⟩
          · rw [e3.keep b' hb']
            have hne : b ≠ b' := fun e => hF (e ▸ hb')
            simp [Array.getElem?_setIfInBounds, if_neg hne]
          · rcases e3.ev e he with h | h
            · rcases Array.mem_push.1 h with h | rfl
              · exact .inl h
              · exact .inr ⟨Nat.lt_of_lt_of_le hlt hs, hF, .inl hg⟩
            · exact .inr h
        rcases hp.same' hF with e | ⟨t, o', e1, e2, e3⟩
        · rw [← e, ho]
          rw [ho] at hr
          cases o0 with
          | cells => simp only [Prod.mk.injEq] at hr; obtain ⟨rfl, rfl⟩ := hr; exact hc.elim
          | _ => exact fin hr
        · rw [e1] at hr
          rw [e2]
          cases o' with
          | view => exact fin hr
          | pending => exact fin hr
          | loop => exact fin hr
          | _ => exact e3.elim
  | choose q k ih =>
    rintro ⟨hq, hk⟩ v w es r es' hp hr hc ht
    simp only [Sem.runT] at hr ⊢
    split at hr
    · rename_i hf
      rw [if_pos hf]
      exact ih _ (hk _) v w es r es' hp hr hc ht
    · rename_i hf
      rw [if_neg hf]
      have hgrow : v.drawn + 1 ≤ (wOf r).drawn := (tame_drawn (hk _) { v with drawn := v.drawn + 1 } es r es' ⟨hp.tame, hp.vok.shp, hp.sz⟩ hr).1
      have e0 := ht 0 (by omega)
      simp only [Nat.add_zero] at e0
      rw [← e0]
      obtain ⟨w', e1, e2, e3⟩ := ih _ (hk _) { v with drawn := v.drawn + 1 } { w with drawn := w.drawn + 1 } es r es' (hp.draw _ _) hr hc (fun i hi => by
        have := ht (1 + i) (by simp at hi; omega)
        simpa [Nat.add_assoc] using this)
      obtain ⟨c, d1, d2⟩ := e3.drawn
      exact ⟨w', e1, e2, ⟨e3.pois, e3.vt, e3.wt, ⟨1 + c, by simp at d1; omega, by simp at d2; omega⟩, e3.size, e3.keep, e3.ev⟩⟩
  | sys => exact False.elim
  | program k ih =>
    rintro hk v w es r es' hp hr hc ht
    simp only [Sem.runT] at hr ⊢
    rcases hk with ⟨h1, hk⟩ | hd
    · rw [h1] at hr
      exact ih _ hk v w es r es' hp hr hc ht
    · obtain ⟨h, es2, e, h2, h3⟩ := dead_run (V := K.V) hd v es
      rw [e] at hr
      simp only [Prod.mk.injEq] at hr
      obtain ⟨rfl, rfl⟩ := hr
      cases h <;> first | exact hc.elim | exact absurd rfl (h3 _)
  | mark m k ih =>
    rintro ⟨hm, hk⟩ v w es r es' hp hr hc ht
    simp only [Sem.runT] at hr ⊢
    obtain ⟨w', e1, e2, e3⟩ := ih hk v w _ r es' hp hr hc ht
    refine ⟨w', e1, e2, ⟨e3.pois, e3.vt, e3.wt, e3.drawn, e3.size, e3.keep, fun e he => ?_⟩⟩
    rcases e3.ev e he with h | h
    · rcases Array.mem_push.1 h with h | rfl
      · exact .inl h
      · exact .inr hm
    · exact .inr h
  | halt h =>
    rintro hh v w es r es' hp hr hc -
    simp only [Sem.runT, Prod.mk.injEq] at hr
    obtain ⟨rfl, rfl⟩ := hr
    exact ⟨w, rfl, trivial, hp, rfl, ⟨rfl, rfl, rfl⟩, ⟨0, rfl, rfl⟩, Nat.le_refl _, fun _ _ => rfl, fun e he => .inl he⟩

/-- Other odd blocks. -/
def Cfg.od (K : Cfg) (X : Nat → TypeId → Obj → Prop) : Cfg := { K with odds := X }
def selfO (b : Nat) (t : TypeId) (o : Obj) : Prop := o = deadV b t
section
variable {K : Cfg} {X : Nat → TypeId → Obj → Prop}
theorem TameO.od {o : Obj} : TameO (K.od X) o ↔ TameO K o := by cases o <;> exact Iff.rfl
theorem TameAt.od {b : Nat} {o : Obj} : TameAt (K.od X) b o ↔ TameAt K b o := by cases o <;> exact Iff.rfl
theorem Tame.od {α : Type} {A : α → Prop} : ∀ {s : Sem α}, Tame K A s → Tame (K.od X) A s := by
  intro s
  induction s with
  | pure a => exact id
  | load m a k ih => exact fun ⟨h1, h2⟩ => ⟨h1, fun v hv => ih v (h2 v hv)⟩
  | store m a v k ih => exact fun ⟨h1, h2, h3⟩ => ⟨h1, h2, ih h3⟩
  | new o k ih => exact fun ⟨h1, h2⟩ => ⟨TameO.od.2 h1, fun r hr => ih r (h2 r hr)⟩
  | shape r k ih => exact fun ⟨h1, h2, h3, h4⟩ => ⟨h1, h2, fun t n => ih _ (h3 t n), fun h => ih _ (h4 h)⟩
  | freeze => exact id
  | frozen a k ih => exact fun h b => ih b (h b)
  | getObj r k ih => exact fun ⟨h1, h2, h3⟩ => ⟨h1.imp id fun h o ho => h o (TameO.od.1 ho), fun o ho => ih o (h2 o (TameO.od.1 ho)), fun hg t => ⟨ih _ (h3 hg t).1, (h3 hg t).2⟩⟩
  | setObj r o k ih => exact fun ⟨h1, h2, h3⟩ => ⟨h1, TameO.od.2 h2, ih h3⟩
  | choose q k ih => exact fun ⟨h1, h2⟩ => ⟨h1, fun n => ih n (h2 n)⟩
  | sys => exact id
  | program k ih => exact fun h => h.imp (fun ⟨h1, h2⟩ => ⟨h1, ih _ h2⟩) id
  | mark m k ih => exact fun ⟨h1, h2⟩ => ⟨h1, ih h2⟩
  | halt => exact id
theorem VOk.od {v : World} (h : VOk K v) : VOk (K.od X) v := ⟨fun b o ho => TameAt.od.2 (h.tame b o ho), h.shp, h.sz⟩
theorem Pois.selfX (hX : ∀ b t, K.odds b t (deadV b t)) {v w : World} (h : VOk K v) (h1 : v.heap = w.heap) (h2 : v.os = w.os) (h3 : v.output = w.output) : Pois K (fun _ => False) v w :=
  ⟨by rw [h1], h2, h3, fun _ _ _ => by rw [h1], fun b t e => ⟨id, deadV b t, by rw [← h1]; exact e, trivial, hX b t⟩, fun _ h => h.elim, fun _ h => h.elim, h.tame, fun _ _ _ h => h.elim, fun b _ => h.shp b, fun _ h => h.elim, fun _ _ h => h.elim, h.sz⟩
theorem Pois.self {v : World} (h : VOk K v) : Pois (K.od selfO) (fun _ => False) v v := Pois.selfX (K := K.od selfO) (fun _ _ => rfl) h.od rfl rfl rfl
/-- What a tame meaning answers. -/
theorem tame_ok {α : Type} {A : α → Prop} {s : Sem α} (hs : Tame K A s) {v : World} {es es' : Array Event} {r : Result α} (hv : VOk K v) (hr : s.runT K.V v es = (r, es')) (hc : Clean r) : okA A r := by
  obtain ⟨_, _, h, _⟩ := tame_run (K := K.od selfO) (F := fun _ => False) hs.od v v es r es' (Pois.self hv) hr hc fun _ _ => rfl
  exact h
end
end Go.Proofs.YtmmjlngbiilagaaGreatDoor

/-
  A GOROUTINE's STEP, ALIKE: in a pruned program, from the emptied world, above a bottom that ends the run; and in the true program, world and company.
-/
namespace Go.Proofs.YtmmjlngbiilagaaGreatDoor
open Go Go.Conc

section
variable (K : Cfg)
/-- What a tame operation may come to. -/
def NextOk : Next → Prop
  | .value v => PFv K v
  | .skip => True
  | .enter _ args => ∀ x ∈ args, PFv K x
  | .row r args => K.rows r = true ∧ ∀ x ∈ args, PFv K x
  | _ => False
/-- What operands mean. -/
structure EvOk (ev : Operand → Value) : Prop where
  const : ∀ c, ev (.const c) = c
  tmp : ∀ t, PFv K (ev (.tmp t))
  global : ∀ g, ev (.global g) = .pointer (some ⟨g, 0, none⟩)
  func : ∀ f, ev (.func f) = .func (.func f) #[] #[]
def OpOk (o : Oper) : Prop := ∀ ev : Operand → Value, EvOk K ev → Tame K (NextOk K) (execOp ev o)
def CodeOk : Code → Prop
  | .skip | .ret | .label _ | .exit _ | .refuse _ => True
  | .seq a b | .cond _ a b => CodeOk a ∧ CodeOk b
  | .region _ ops _ => ∀ (i : Nat) (o : Oper), ops[i]? = some o → OpOk K o
  | .block _ c | .loop c | .scope c => CodeOk c
  | _ => False
def ItemOk : Item → Prop
  | .code c | .inLoop c | .inScope c => CodeOk K c
  | .inBlock _ => True
  | .inRegion ops _ => ∀ (i : Nat) (o : Oper), ops[i]? = some o → OpOk K o
  | .extern r args => K.rows r = true ∧ ∀ x ∈ args, PFv K x
  | _ => False
structure FrOk (fr : Frame) : Prop where
  todo : ∀ x ∈ fr.todo, ItemOk K x
  defers : fr.defers = []
  kind : fr.kind = .normal
  round : fr.roundOf = none
  fn : K.V.funcs[fr.fn]? = K.P.funcs[fr.fn]?
  res : ∀ fn, K.P.funcs[fr.fn]? = some fn → ∀ tmps : Array Value, (∀ x ∈ tmps, PFv K x) → Tame K (PFv K) (results fn tmps)
  tmps : ∀ x ∈ fr.tmps, PFv K x
/-- V is P with some functions made dumb; what is left is tame. -/
structure Prune : Prop where
  tables : K.V.toTables = K.P.toTables
  size : K.V.funcs.size = K.P.funcs.size
  keep : ∀ (f : Nat) (fn : Func), K.V.funcs[f]? = some fn → (K.P.funcs[f]? = some fn ∧ (∀ c, fn.body = some c → CodeOk K c) ∧ ∀ tmps : Array Value, (∀ x ∈ tmps, PFv K x) → Tame K (PFv K) (results fn tmps)) ∨ (∃ why, fn.body = some (.refuse why)) ∨ fn.body = none
  rows : ∀ r, K.rows r = true → ∀ args : Array Value, (∀ x ∈ args, PFv K x) → ∀ e, Extern.next r = some e → Tame K (NextOk K) (e args)
end
theorem PFv.undef (K : Cfg) : PFv K undef := .inr (.tuple fun x hx => by simp at hx)
theorem FrOk.ev {K : Cfg} {fr : Frame} (h : FrOk K fr) : EvOk K fr.eval := ⟨fun _ => rfl, fun t => by
  show PFv K (fr.tmps.getD t Go.undef)
  rw [Array.getD_eq_getD_getElem?]
  cases ht : fr.tmps[t]? with
  | none => exact .undef K
  | some x => exact h.tmps x (Array.mem_iff_getElem?.2 ⟨t, ht⟩), fun _ => rfl, fun _ => rfl⟩

/-- Below all: whoever comes back here ends the run. -/
def bottom : Frame := { (default : Frame) with todo := [.code (.refuse "")], defers := [⟨.nil, #[]⟩], mode := .run, kind := .normal }

/-- From here a lone run never comes to a return. -/
def Doomed (V : Program) (fr : Frame) (cs : List Frame) (v : World) : Prop := ∀ (n : Nat) (fr' : Frame) (cs' : List Frame) (v' : World), fr'.mode = .returning → runN V n (lone fr cs v) ≠ .next (lone fr' cs' v')

theorem lone_inj {fr fr' : Frame} {cs cs' : List Frame} {v v' : World} (h : lone fr cs v = lone fr' cs' v') : fr = fr' ∧ cs = cs' ∧ v = v' := by
  simp only [lone, Machine.mk.injEq, Array.mk.injEq, List.cons.injEq, Goroutine.mk.injEq, and_true, true_and] at h
  exact ⟨h.2.1, h.2.2, h.1⟩

section
variable {V : Program} {fr fr' : Frame} {cs cs' : List Frame} {v v' : World}
theorem doomed_ended {o : Outcome} {u : World} (hm : fr.mode ≠ .returning) (h : step V (lone fr cs v) = .ended o u) : Doomed V fr cs v := fun n f c u' hf e => by
  cases n with
  | zero =>
    simp only [runN, Stepped.next.injEq] at e
    obtain ⟨rfl, _, _⟩ := lone_inj e
    exact hm hf
  | succ n => simp [runN, h] at e
theorem doomed_next (hm : fr.mode ≠ .returning) (h : step V (lone fr cs v) = .next (lone fr' cs' v')) (hd : Doomed V fr' cs' v') : Doomed V fr cs v := fun n f c u' hf e => by
  cases n with
  | zero =>
    simp only [runN, Stepped.next.injEq] at e
    obtain ⟨rfl, _, _⟩ := lone_inj e
    exact hm hf
  | succ n =>
    simp only [runN, h] at e
    exact hd n f c u' hf e
theorem doomed_refuse {why : String} {k : List Item} (hm : fr.mode = .run) (ht : fr.todo = .code (.refuse why) :: k) : Doomed V fr cs v :=
  doomed_ended (o := _) (u := v) (by rw [hm]; simp) (step_lone_ended (by simp [stepG, stepG.exec, hm, ht]; rfl))
/-- A frame that lets a panic by. -/
structure Lets (fr : Frame) : Prop where
  defers : fr.defers = []
  todo : ∀ d b r s k, fr.todo ≠ .call d b r s :: k
theorem catches_no {fr : Frame} (h : ∀ d b r s k, fr.todo ≠ .call d b r s :: k) : fr.catches V = false := by
  unfold Frame.catches
  split
  · rename_i h2
    exact absurd h2 (h _ _ _ _ _)
  · rfl
theorem raise_mode (fr : Frame) (ch : List PanicEntry) : ∃ ch', (fr.raise ch).mode = .panicking ch' := by
  unfold Frame.raise
  split <;> exact ⟨_, rfl⟩
theorem raise_rest (fr : Frame) (ch : List PanicEntry) : (fr.raise ch).defers = fr.defers ∧ (fr.raise ch).todo = fr.todo := by
  unfold Frame.raise
  split <;> exact ⟨rfl, rfl⟩
theorem doomed_panic : ∀ (l : List Frame) (fr : Frame) (ch : List PanicEntry) (v : World), fr.mode = .panicking ch → Lets fr → (∀ x ∈ l, Lets x) → Doomed V fr (l ++ [bottom]) v := by
  intro l
  induction l with
  | nil =>
    intro fr ch v hm hL _
    have hc := catches_no (V := V) hL.todo
    refine doomed_next (fr' := bottom.raise ch) (cs' := []) (v' := v) (by rw [hm]; simp) (step_lone_go (by simp [stepG, unwind, hm, hL.defers, hc])) ?_
    refine doomed_ended (o := .unsupported (.noEntry "machine/Return: a deferred call of a nil function value, made while the frame is unwinding") (({ bottom.raise ch with defers := [] } : Frame).pos V)) (u := v) (by simp [Frame.raise, bottom]) (step_lone_ended ?_)
    simp [stepG, unwind, callDeferred, Frame.raise, bottom]
  | cons x l ih =>
    intro fr ch v hm hL hl
    have hc := catches_no (V := V) hL.todo
    refine doomed_next (fr' := x.raise ch) (cs' := l ++ [bottom]) (v' := v) (by rw [hm]; simp) (step_lone_go (by simp [stepG, unwind, hm, hL.defers, hc])) ?_
    obtain ⟨ch', hch⟩ := raise_mode x ch
    obtain ⟨h1, h2⟩ := raise_rest x ch
    have hx := hl x (List.mem_cons_self ..)
    exact ih _ ch' v hch ⟨by rw [h1]; exact hx.defers, by rw [h2]; exact hx.todo⟩ fun y hy => hl y (List.mem_cons_of_mem _ hy)
end
end Go.Proofs.YtmmjlngbiilagaaGreatDoor
