/- The abstract machine, part 1b: states, what ties them to frames and worlds, contracts over objects. -/
import Derived.Test.YtedcagoilpaafaaDoorMa
namespace Go.Proofs.YtedcagoilpaafaaDoor
set_option linter.all false
open Go.RowKit

structure St where
  t : Nat → Option AV
  o : Nat → Option (List AV)

def lk {α : Type} : List (Nat × α) → Nat → Option α
  | [], _ => none
  | (k, a) :: r, i => if i = k then some a else lk r i
def pt {α : Type} : List (Nat × α) → Nat → α → List (Nat × α)
  | [], i, a => [(i, a)]
  | (k, b) :: r, i, a => if i = k then (k, a) :: r else (k, b) :: pt r i a
def upd {α : Type} (f : Nat → Option α) (i : Nat) (a : Option α) : Nat → Option α := fun j => if j = i then a else f j
theorem lk_pt {α : Type} (l : List (Nat × α)) (i : Nat) (a : α) (j : Nat) : lk (pt l i a) j = if j = i then some a else lk l j := by
  induction l with
  | nil => simp [pt, lk]
  | cons x r ih =>
    obtain ⟨k, b⟩ := x
    by_cases h : i = k
    · subst h
      by_cases hj : j = i <;> simp [pt, lk, hj]
    · simp only [pt, h, if_false, lk, ih]
      by_cases hj : j = k
      · subst hj
        simp [Ne.symm h]
      · simp [hj]
theorem upd_lk {α : Type} (l : List (Nat × α)) (i : Nat) (a : α) : upd (lk l) i (some a) = lk (pt l i a) := by
  funext j
  rw [lk_pt]
  rfl
def del {α : Type} : List (Nat × α) → Nat → List (Nat × α)
  | [], _ => []
  | (k, b) :: r, i => if i = k then del r i else (k, b) :: del r i
theorem lk_del {α : Type} (l : List (Nat × α)) (i j : Nat) : lk (del l i) j = if j = i then none else lk l j := by
  induction l with
  | nil => simp [del, lk]
  | cons x r ih =>
    obtain ⟨k, b⟩ := x
    by_cases h : i = k
    · subst h
      by_cases hj : j = i
      · subst hj; simp [del, ih]
      · simp [del, ih, lk, hj]
    · simp only [del, h, if_false, lk, ih]
      by_cases hj : j = k
      · subst hj
        simp [Ne.symm h]
      · simp [hj]
theorem upd_del {α : Type} (l : List (Nat × α)) (i : Nat) : upd (lk l) i none = lk (del l i) := by
  funext j
  rw [lk_del]
  rfl
theorem upd_comm {α : Type} (f : Nat → Option α) {i j : Nat} (a b : Option α) (h : i ≠ j) : upd (upd f i a) j b = upd (upd f j b) i a := by
  funext k
  simp only [upd]
  by_cases h1 : k = j <;> by_cases h2 : k = i <;> simp_all
theorem upd_ne {α : Type} (f : Nat → Option α) {i j : Nat} (a : Option α) (h : j ≠ i) : upd f i a j = f j := by simp [upd, h]
theorem upd_same {α : Type} (f : Nat → Option α) (i : Nat) (a : Option α) : upd f i a i = a := by simp [upd]

def St.put (s : St) (d : Option Nat) (v : AV) : St :=
  match d with
  | some d => { s with t := upd s.t d (some v) }
  | none => s

inductive Loc where
  | t (i : Nat)
  | o (b j : Nat)
def St.at (s : St) : Loc → Option AV
  | .t i => s.t i
  | .o b j => (s.o b).bind (·[j]?)
def cat (a : Act) (W : World) : Loc → Value
  | .t i => a.tmps.getD i undef
  | .o b j => match W.heap[b]? with
    | some (.cells vs _ _) => vs.getD j undef
    | _ => undef

/-- What may not have turned since the call began. M: the blocks that were handed over to be written. -/
structure Fr (W0 : World) (U0 : Nat → Nat → Prop) (M : Nat → Prop) (W : World) (U : Nat → Nat → Prop) : Prop where
  os : W.os = W0.os
  tape : W.tape = W0.tape
  output : W.output = W0.output
  size : W0.heap.size ≤ W.heap.size
  block : ∀ k, k < W0.heap.size → ¬ M k → W.heap[k]? = W0.heap[k]?
  u : ∀ k, k < W0.heap.size → ¬ M k → ∀ o, U k o ↔ U0 k o
  keeps : Keeps W0 U0 W U
  g0 : Glob W0 U0
  gm : ∀ x ∈ globTabs, ¬ M x.1
theorem Fr.glob {W0 : World} {U0 : Nat → Nat → Prop} {M : Nat → Prop} {W : World} {U : Nat → Nat → Prop} (h : Fr W0 U0 M W U) : Glob W U :=
  h.g0.stay (fun x hx => h.block x.1 (h.g0.lt hx) (h.gm x hx)) (fun x hx => h.u x.1 (h.g0.lt hx) (h.gm x hx))

/-- A block's type, where the first cell tells it. -/
def headT : List AV → Option Nat
  | .nilT t :: _ => some t
  | _ => none
abbrev TyFor (cs : List AV) := { t : TypeId // ∀ u, headT cs = some u → t = u }
structure Inv (N : Nat) (W0 : World) (U0 : Nat → Nat → Prop) (M : Nat → Prop) (a : Act) (W : World) (U : Nat → Nat → Prop) (s : St) : Prop where
  sz : a.tmps.size = N
  df : a.defers = []
  fr : Fr W0 U0 M W U
  tv : ∀ i v, s.t i = some v → VR W U (a.tmps.getD i undef) v
  ob : ∀ b cs, s.o b = some cs → ∃ vs, ∃ ty : TyFor cs, W.heap[b]? = some (.cells vs ty.1 (0, 0)) ∧ vs.size = cs.length ∧
    (∀ j c, cs[j]? = some c → VR W U (vs.getD j undef) c ∧ (vs.getD j undef).oneCell' = true) ∧ (∀ o, U b o) ∧ (W0.heap.size ≤ b ∨ M b)
  ow : ∀ ℓ v, s.at ℓ = some v → Own1 W U (fun g => W0.heap.size ≤ g ∨ M g) (cat a W ℓ) v
  ap : ∀ ℓ ℓ' e sz els e' sz' els', ℓ ≠ ℓ' → s.at ℓ = some (.sl (some e) sz els) → s.at ℓ' = some (.sl (some e') sz' els') →
    ∀ g, (cat a W ℓ).ownBlock = some g → (cat a W ℓ').ownBlock ≠ some g
  no : ∀ ℓ e sz els, s.at ℓ = some (.sl (some e) sz els) → ∀ g, (cat a W ℓ).ownBlock = some g → s.o g = none

/-- The blocks that objects hold: their own, and the rows that are theirs alone. -/
def ownedBy (W : World) (o : Nat → Option (List AV)) (k : Nat) : Prop :=
  (∃ cs, o k = some cs) ∨ ∃ b j e sz els, St.at ⟨fun _ => none, o⟩ (.o b j) = some (.sl (some e) sz els) ∧ (cat { tmps := #[], defers := [] } W (.o b j)).ownBlock = some k

/-- What a function does with objects that are handed to it: given these values, and objects that read so, it returns a value and leaves objects as Q says; nothing else has turned. -/
def CT (P : Program) (f : Nat) (as : List AV) (o : Nat → Option (List AV)) (Q : AV → (Nat → Option (List AV)) → Prop) : Prop :=
  ∀ (W : World) (U : Nat → Nat → Prop) (vs : List Value), vs.length = as.length → (∀ (i : Nat) (v : Value) (c : AV), vs[i]? = some v → as[i]? = some c → VR W U v c) →
    Inv 0 W U (ownedBy W o) { tmps := #[], defers := [] } W U ⟨fun _ => none, o⟩ →
    Calls P f vs.toArray W fun e W' => ∃ v U' r o', e = .returned v ∧ Q r o' ∧ (∀ b cs, o b = some cs → ∃ cs', o' b = some cs') ∧ Inv 1 W U (ownedBy W o) { tmps := #[v], defers := [] } W' U' ⟨upd (fun _ => none) 0 (some r), o'⟩
end Go.Proofs.YtedcagoilpaafaaDoor
