/- The abstract machine, part 1: abstract values, how a concrete value reads as one, and that this is kept. Nothing of the program is named here. -/
import Derived.WalkKit
import Derived.WalkSpells
import Derived.WalkLawsBesides
import Derived.Still
import Derived.Test.YtedcagoilpaafaaDoorGt
namespace Go.Proofs.YtedcagoilpaafaaDoor
set_option linter.all false
open Go.RowKit

/-- Abstract values. `sl own sz els`: a slice that reads as the list of elements, each a list of sz cells; `own`: the row is its holder's alone (the element's type). `ro`: a pointer to cells that no longer change. `ptr b off`: a pointer to a known block. `osl b off n`: a slice of n elements in a known block, from cell off on. `nilT t`: a nil pointer that is the first cell of a block of type t. `nils`: a nil slice, known as such. -/
inductive AV where
  | int (k : IntKind) (n : Int)
  | bool (b : Bool)
  | str (l : List UInt8)
  | agg (cs : List AV)
  | sl (own : Option Nat) (sz : Nat) (els : List (List AV))
  | ro (cs : List AV)
  | ptr (b off : Nat)
  | osl (b off n : Nat)
  | nilp
  | nilT (t : Nat)
  | nili
  | nils (e sz : Nat)
  | fn (f : Nat)
  | tup (cs : List AV)
  | undef
  deriving Inhabited

/-- How a concrete value reads. `U b o`: the cell may still change. -/
inductive VR (W : World) (U : Nat → Nat → Prop) : Value → AV → Prop where
  | int (k : IntKind) (n : Int) : VR W U (.int k n) (.int k n)
  | bool (b : Bool) : VR W U (.bool b) (.bool b)
  | str (l : List UInt8) : VR W U (.string ⟨l.toArray⟩) (.str l)
  | agg (vs : List Value) (cs : List AV) (hl : vs.length = cs.length) (h : ∀ (i : Nat) (v : Value) (c : AV), vs[i]? = some v → cs[i]? = some c → VR W U v c) (h1 : ∀ v ∈ vs, v.oneCell' = true) : VR W U (.agg vs.toArray) (.agg cs)
  | sl (A : Option Addr) (cap : Nat) (own : Option Nat) (els : List (List AV)) (b o sz : Nat) (f : Nat → Nat → Value)
      (hcap : els.length ≤ cap) (hmax : cap ≤ maxLen) (hA : 0 < els.length → A = some ⟨b, o, none⟩) (hs : ∀ e ∈ els, e.length = sz)
      (hc : ∀ i j, i < els.length → j < sz → W.cell? ⟨b, o + i * sz + j, none⟩ = some (f i j) ∧ (f i j).oneCell' = true ∧ ¬ U b (o + i * sz + j))
      (hv : ∀ (i : Nat) (e : List AV) (j : Nat) (c : AV), els[i]? = some e → e[j]? = some c → VR W U (f i j) c) : VR W U (.slice A els.length cap) (.sl own sz els)
  | ro (b o : Nat) (cs : List AV) (f : Nat → Value) (hc : ∀ j, j < cs.length → W.cell? ⟨b, o + j, none⟩ = some (f j) ∧ (f j).oneCell' = true ∧ ¬ U b (o + j))
      (hv : ∀ (j : Nat) (c : AV), cs[j]? = some c → VR W U (f j) c) : VR W U (.pointer (some ⟨b, o, none⟩)) (.ro cs)
  | ptr (b o : Nat) : VR W U (.pointer (some ⟨b, o, none⟩)) (.ptr b o)
  | osl (b o n cap : Nat) (hcap : n ≤ cap) (hmax : cap ≤ maxLen) : VR W U (.slice (some ⟨b, o, none⟩) n cap) (.osl b o n)
  | nilp : VR W U (.pointer none) .nilp
  | nilT (t : Nat) : VR W U (.pointer none) (.nilT t)
  | nili : VR W U .nilIface .nili
  | nils (e sz : Nat) : VR W U (.slice none 0 0) (.nils e sz)
  | fn (f : Nat) : VR W U (.func (.func f) #[] #[]) (.fn f)
  | tup (vs : List Value) (cs : List AV) (hl : vs.length = cs.length) (h : ∀ (i : Nat) (v : Value) (c : AV), vs[i]? = some v → cs[i]? = some c → VR W U v c) : VR W U (.tuple vs.toArray) (.tup cs)
  | undef : VR W U Go.undef .undef

/-- Every cell that is done with changing stays, and stays so. -/
def Keeps (W : World) (U : Nat → Nat → Prop) (W' : World) (U' : Nat → Nat → Prop) : Prop :=
  ∀ b o v, W.cell? ⟨b, o, none⟩ = some v → ¬ U b o → W'.cell? ⟨b, o, none⟩ = some v ∧ ¬ U' b o

theorem Keeps.refl (W : World) (U : Nat → Nat → Prop) : Keeps W U W U := fun _ _ _ h hu => ⟨h, hu⟩
theorem Keeps.trans {W W' W'' : World} {U U' U'' : Nat → Nat → Prop} (h : Keeps W U W' U') (h' : Keeps W' U' W'' U'') : Keeps W U W'' U'' :=
  fun b o v hc hu => let ⟨h1, h2⟩ := h b o v hc hu; h' b o v h1 h2

theorem VR.keep {W W' : World} {U U' : Nat → Nat → Prop} (hk : Keeps W U W' U') {v : Value} {a : AV} (h : VR W U v a) : VR W' U' v a := by
  induction h with
  | int k n => exact .int k n
  | bool b => exact .bool b
  | str l => exact .str l
  | agg vs cs hl _ h1 ih => exact .agg vs cs hl ih h1
  | sl A cap own els b o sz f hcap hmax hA hs hc _ ih =>
    exact .sl A cap own els b o sz f hcap hmax hA hs (fun i j hi hj => let ⟨h1, h3, h2⟩ := hc i j hi hj; let ⟨g1, g2⟩ := hk _ _ _ h1 h2; ⟨g1, h3, g2⟩) ih
  | ro b o cs f hc _ ih => exact .ro b o cs f (fun j hj => let ⟨h1, h3, h2⟩ := hc j hj; let ⟨g1, g2⟩ := hk _ _ _ h1 h2; ⟨g1, h3, g2⟩) ih
  | ptr b o => exact .ptr b o
  | osl b o n cap h1 h2 => exact .osl b o n cap h1 h2
  | nilp => exact .nilp
  | nilT t => exact .nilT t
  | nili => exact .nili
  | nils e sz => exact .nils e sz
  | fn f => exact .fn f
  | tup vs cs hl _ ih => exact .tup vs cs hl ih
  | undef => exact .undef

/-- The same without the right to extend. -/
def AV.alias : AV → AV
  | .sl _ sz els => .sl none sz els
  | .nils _ sz => .sl none sz []
  | .nilT _ => .nilp
  | a => a
/-- As it lies in a cell. -/
def AV.store : AV → AV
  | .nils e sz => .nils e sz
  | a => a.alias
theorem VR.nil {W : World} {U : Nat → Nat → Prop} (own : Option Nat) (sz : Nat) : VR W U (.slice none 0 0) (.sl own sz []) := .sl (els := []) none 0 _ 0 0 _ (fun _ _ => Go.undef) (by simp) (by simp) (by simp) (by simp) (by simp) (by simp)
theorem VR.alias {W : World} {U : Nat → Nat → Prop} {v : Value} {a : AV} (h : VR W U v a) : VR W U v a.alias := by
  cases h with
  | sl A cap own els b o sz f hcap hmax hA hs hc hv => exact .sl A cap none els b o sz f hcap hmax hA hs hc hv
  | int k n => exact .int k n
  | bool b => exact .bool b
  | str l => exact .str l
  | agg vs cs hl h h1 => exact .agg vs cs hl h h1
  | ro b o cs f hc hv => exact .ro b o cs f hc hv
  | ptr b o => exact .ptr b o
  | osl b o n cap h1 h2 => exact .osl b o n cap h1 h2
  | nilp => exact .nilp
  | nilT t => exact .nilp
  | nili => exact .nili
  | nils e sz => exact VR.nil none sz
  | fn f => exact .fn f
  | tup vs cs hl h => exact .tup vs cs hl h
  | undef => exact .undef
theorem VR.store {W : World} {U : Nat → Nat → Prop} {v : Value} {a : AV} (h : VR W U v a) : VR W U v a.store := by
  by_cases hn : ∃ e sz, a = .nils e sz
  · obtain ⟨e, sz, rfl⟩ := hn
    exact h
  · have e : a.store = a.alias := by cases a <;> first | rfl | exact absurd ⟨_, _, rfl⟩ hn
    rw [e]; exact h.alias
theorem VR.reown {W : World} {U : Nat → Nat → Prop} {v : Value} {own own' : Option Nat} {sz : Nat} {els : List (List AV)} (h : VR W U v (.sl own sz els)) : VR W U v (.sl own' sz els) := by
  cases h with
  | sl A cap own els b o sz f hcap hmax hA hs hc hv => exact .sl A cap own' els b o sz f hcap hmax hA hs hc hv

/-- A slice's row that is its holder's alone: the cells behind the length may change. -/
def OwnRow (W : World) (U : Nat → Nat → Prop) (B : Nat → Prop) (v : Value) (e sz n : Nat) : Prop :=
  (v = .slice none 0 0 ∧ n = 0) ∨
  ∃ g cap cur, v = .slice (some ⟨g, 0, none⟩) n cap ∧ B g ∧ W.heap[g]? = some (.cells cur e (0, 0)) ∧ n ≤ cap ∧ cap ≤ maxLen ∧ cur.size = cap * sz ∧
    (∀ o, o < n * sz → ¬ U g o) ∧ (∀ o, n * sz ≤ o → U g o)

/-- What a value's right to its row says. -/
def Own1 (W : World) (U : Nat → Nat → Prop) (B : Nat → Prop) (v : Value) : AV → Prop
  | .sl (some e) sz els => OwnRow W U B v e sz els.length
  | _ => True

/-- The world grew: nothing that was there has turned. -/
structure Ext (W : World) (U : Nat → Nat → Prop) (W' : World) (U' : Nat → Nat → Prop) : Prop where
  b : Below W.heap.size W W'
  u : ∀ k, k < W.heap.size → ∀ o, U' k o ↔ U k o
theorem Ext.refl (W : World) (U : Nat → Nat → Prop) : Ext W U W U := ⟨Below.refl _ _, fun _ _ _ => Iff.rfl⟩
theorem Ext.trans {W W' W'' : World} {U U' U'' : Nat → Nat → Prop} (h : Ext W U W' U') (h' : Ext W' U' W'' U'') : Ext W U W'' U'' :=
  ⟨h.b.trans (h'.b.mono h.b.size), fun k hk o => (h'.u k (Nat.lt_of_lt_of_le hk h.b.size) o).trans (h.u k hk o)⟩
theorem Ext.keeps {W W' : World} {U U' : Nat → Nat → Prop} (h : Ext W U W' U') : Keeps W U W' U' := fun b o v hc hu => by
  have hb : b < W.heap.size := World.block_lt_of_cell? W ⟨b, o, none⟩ hc
  exact ⟨(h.b.cell (p := ⟨b, o, none⟩) hb).trans hc, fun hu' => hu ((h.u b hb o).1 hu')⟩
theorem Ext.drew {W W' : World} {U U' : Nat → Nat → Prop} (h : Ext W U W' U') : Ext W U W'.drew U' := ⟨h.b.drew, h.u⟩
/-- A new block; what may change in it is ours to say. -/
theorem Ext.alloc (W : World) (U : Nat → Nat → Prop) (o : Obj) (N : Nat → Prop) : Ext W U (W.alloc o) (fun k i => if k = W.heap.size then N i else U k i) :=
  ⟨(Below.refl _ _).alloc (Nat.le_refl _) o, fun k hk i => by rw [if_neg (by omega)]⟩

/-- The listed tables lie as they were laid, and stay so. -/
def Glob (W : World) (U : Nat → Nat → Prop) : Prop := ∀ x ∈ globTabs, (∃ cs ty fr, W.heap[x.1]? = some (.cells cs ty fr) ∧ x.2 cs) ∧ ∀ o, ¬ U x.1 o
theorem Glob.lt {W : World} {U : Nat → Nat → Prop} (h : Glob W U) {x : Nat × (Array Value → Prop)} (hx : x ∈ globTabs) : x.1 < W.heap.size := by
  obtain ⟨⟨cs, ty, fr, e, _⟩, _⟩ := h x hx
  exact (Array.getElem?_eq_some_iff.1 e).1
theorem Glob.stay {W W' : World} {U U' : Nat → Nat → Prop} (h : Glob W U) (hb : ∀ x ∈ globTabs, W'.heap[x.1]? = W.heap[x.1]?) (hu : ∀ x ∈ globTabs, ∀ o, U' x.1 o ↔ U x.1 o) : Glob W' U' := fun x hx =>
  ⟨by obtain ⟨cs, ty, fr, e, q⟩ := (h x hx).1; exact ⟨cs, ty, fr, (hb x hx).trans e, q⟩, fun o ho => (h x hx).2 o ((hu x hx o).1 ho)⟩
theorem Glob.ext {W W' : World} {U U' : Nat → Nat → Prop} (h : Glob W U) (he : Ext W U W' U') : Glob W' U' := h.stay (fun x hx => he.b.block x.1 (h.lt hx)) (fun x hx => he.u x.1 (h.lt hx))

/-- What a pure function does: given these it returns this. -/
def CP (P : Program) (f : Nat) (as : List AV) (r : AV) : Prop :=
  ∀ (W : World) (U : Nat → Nat → Prop) (vs : List Value), Glob W U → vs.length = as.length → (∀ (i : Nat) (v : Value) (c : AV), vs[i]? = some v → as[i]? = some c → VR W U v c) →
    Calls P f vs.toArray W fun e W' => ∃ v U', e = .returned v ∧ VR W' U' v r ∧ Own1 W' U' (W.heap.size ≤ ·) v r ∧ Ext W U W' U'

/-! cells held against each other -/
inductive Kd where
  | i | b | s
  deriving Inhabited, DecidableEq
def eq1 : Kd → AV → AV → Option Bool
  | .i, .int k a, .int k' b => if k = k' then some (decide (a = b)) else none
  | .b, .bool a, .bool b => some (decide (a = b))
  | .s, .str a, .str b => some (decide (a = b))
  | _, _, _ => none
def eqC : List Kd → List AV → List AV → Option Bool
  | [], [], [] => some true
  | k :: ks, c :: cs, d :: ds => match eq1 k c d, eqC ks cs ds with
    | some x, some y => some (x && y)
    | _, _ => none
  | _, _, _ => none
end Go.Proofs.YtedcagoilpaafaaDoor
