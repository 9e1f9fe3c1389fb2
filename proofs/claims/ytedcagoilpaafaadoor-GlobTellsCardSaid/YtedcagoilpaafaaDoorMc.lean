/- The abstract machine, part 3: what ties an abstract state to a frame and a world, and how that is kept. -/
import Derived.Test.YtedcagoilpaafaaDoorMb
namespace Go.Proofs.YtedcagoilpaafaaDoor
set_option linter.all false
open Go.RowKit

section
variable {N : Nat} {W0 : World} {U0 : Nat → Nat → Prop} {M : Nat → Prop} {a : Act} {W : World} {U : Nat → Nat → Prop} {s : St}

theorem Le.at_ {s' s : St} (h : Le s' s) {ℓ : Loc} {v : AV} (hv : s'.at ℓ = some v) : s.at ℓ = some v := by
  cases ℓ with
  | t i => exact h.1 i v hv
  | o b j =>
    simp only [St.at, Option.bind_eq_some_iff] at hv ⊢
    obtain ⟨cs, h1, h2⟩ := hv
    exact ⟨cs, h.2 b cs h1, h2⟩

theorem Inv.le {s' : St} (h : Inv N W0 U0 M a W U s) (hl : Le s' s) : Inv N W0 U0 M a W U s' where
  sz := h.sz
  df := h.df
  fr := h.fr
  tv := fun i v hv => h.tv i v (hl.1 i v hv)
  ob := fun b cs hb => h.ob b cs (hl.2 b cs hb)
  ow := fun ℓ v hv => h.ow ℓ v (hl.at_ hv)
  ap := fun ℓ ℓ' e sz els e' sz' els' hne h1 h2 => h.ap ℓ ℓ' e sz els e' sz' els' hne (hl.at_ h1) (hl.at_ h2)
  no := fun ℓ e sz els h1 g hg => by
    have h2 := h.no ℓ e sz els (hl.at_ h1) g hg
    cases h3 : s'.o g with
    | none => rfl
    | some cs => rw [hl.2 g cs h3] at h2; cases h2

theorem OwnRow.lt {B : Nat → Prop} {v : Value} {e sz n : Nat} (h : OwnRow W U B v e sz n) {g : Nat} (hg : v.ownBlock = some g) : g < W.heap.size := by
  rcases h with ⟨rfl, _⟩ | ⟨g', cap, cur, rfl, _, hh, _⟩
  · simp [Value.ownBlock] at hg
  · simp [Value.ownBlock] at hg
    subst hg
    exact (Array.getElem?_eq_some_iff.1 hh).1

theorem OwnRow.ext {W' : World} {U' : Nat → Nat → Prop} (he : Ext W U W' U') {B : Nat → Prop} {v : Value} {e sz n : Nat} (h : OwnRow W U B v e sz n) : OwnRow W' U' B v e sz n := by
  rcases h with h | ⟨g, cap, cur, rfl, hB, hh, h1, h2, h3, h4, h5⟩
  · exact .inl h
  · have hlt := (Array.getElem?_eq_some_iff.1 hh).1
    exact .inr ⟨g, cap, cur, rfl, hB, (he.b.block g hlt).trans hh, h1, h2, h3, fun o ho hu => h4 o ho ((he.u g hlt o).1 hu), fun o ho => (he.u g hlt o).2 (h5 o ho)⟩

theorem Own1.ext {W' : World} {U' : Nat → Nat → Prop} (he : Ext W U W' U') {B : Nat → Prop} {v : Value} {r : AV} (h : Own1 W U B v r) : Own1 W' U' B v r := by
  unfold Own1 at *
  split at h
  · exact OwnRow.ext he h
  · trivial

theorem Fr.ext {W' : World} {U' : Nat → Nat → Prop} (h : Fr W0 U0 M W U) (he : Ext W U W' U') : Fr W0 U0 M W' U' where
  g0 := h.g0
  gm := h.gm
  os := he.b.os.trans h.os
  tape := he.b.tape.trans h.tape
  output := he.b.output.trans h.output
  size := Nat.le_trans h.size he.b.size
  block := fun k hk hm => (he.b.block k (Nat.lt_of_lt_of_le hk h.size)).trans (h.block k hk hm)
  u := fun k hk hm o => (he.u k (Nat.lt_of_lt_of_le hk h.size) o).trans (h.u k hk hm o)
  keeps := h.keeps.trans he.keeps

theorem cat_ext {W' : World} (hb : Below W.heap.size W W') {ℓ : Loc} {v : AV} (hob : ∀ b cs, s.o b = some cs → b < W.heap.size) (h : s.at ℓ = some v) : cat a W' ℓ = cat a W ℓ := by
  cases ℓ with
  | t i => rfl
  | o b j =>
    simp only [St.at, Option.bind_eq_some_iff] at h
    obtain ⟨cs, h1, _⟩ := h
    simp only [cat, hb.block b (hob b cs h1)]

theorem Inv.ob_lt (h : Inv N W0 U0 M a W U s) : ∀ b cs, s.o b = some cs → b < W.heap.size := fun b cs hb => by
  obtain ⟨vs, ty, hh, _⟩ := h.ob b cs hb
  exact (Array.getElem?_eq_some_iff.1 hh).1

theorem Inv.ext {W' : World} {U' : Nat → Nat → Prop} (h : Inv N W0 U0 M a W U s) (he : Ext W U W' U') : Inv N W0 U0 M a W' U' s where
  sz := h.sz
  df := h.df
  fr := h.fr.ext he
  tv := fun i v hv => (h.tv i v hv).keep he.keeps
  ob := fun b cs hb => by
    obtain ⟨vs, ty, h1, h2, h3, h4, h5⟩ := h.ob b cs hb
    have hlt := (Array.getElem?_eq_some_iff.1 h1).1
    exact ⟨vs, ty, (he.b.block b hlt).trans h1, h2, fun j c hc => ⟨(h3 j c hc).1.keep he.keeps, (h3 j c hc).2⟩, fun o => (he.u b hlt o).2 (h4 o), h5⟩
  ow := fun ℓ v hv => by
    rw [cat_ext he.b h.ob_lt hv]
    exact (h.ow ℓ v hv).ext he
  ap := fun ℓ ℓ' e sz els e' sz' els' hne h1 h2 => by
    rw [cat_ext he.b h.ob_lt h1, cat_ext he.b h.ob_lt h2]
    exact h.ap ℓ ℓ' e sz els e' sz' els' hne h1 h2
  no := fun ℓ e sz els h1 => by
    rw [cat_ext he.b h.ob_lt h1]
    exact h.no ℓ e sz els h1

theorem tmps_put_same (a : Act) {d : Nat} (v : Value) (h : d < a.tmps.size) : (a.put (some d) v).tmps.getD d undef = v := by
  simp [Act.put, h]
theorem tmps_put_ne (a : Act) {d i : Nat} (v : Value) (h : i ≠ d) : (a.put (some d) v).tmps.getD i undef = a.tmps.getD i undef := by
  simp [Act.put, Ne.symm h]

/-- The right to a row that a place is to have is nobody else's. -/
def Sole (W0 : World) (M : Nat → Prop) (a : Act) (W : World) (U : Nat → Nat → Prop) (s : St) (d : Nat) (v : Value) (r : AV) : Prop :=
  ∀ e sz els, r = .sl (some e) sz els → OwnRow W U (fun g => W0.heap.size ≤ g ∨ M g) v e sz els.length ∧
    ∀ g, v.ownBlock = some g → s.o g = none ∧ ∀ ℓ, ℓ ≠ .t d → (∃ e sz els, s.at ℓ = some (.sl (some e) sz els)) → (cat a W ℓ).ownBlock ≠ some g

theorem at_put_ne {s : St} {d : Nat} {r : AV} {ℓ : Loc} (h : ℓ ≠ .t d) : (s.put (some d) r).at ℓ = s.at ℓ := by
  cases ℓ with
  | t i =>
    have : i ≠ d := fun e => h (by rw [e])
    simp [St.put, St.at, upd, this]
  | o b j => rfl
theorem at_put_same {s : St} {d : Nat} {r : AV} : (s.put (some d) r).at (.t d) = some r := by simp [St.put, St.at, upd]
theorem cat_put_ne {d : Nat} {v : Value} {ℓ : Loc} (h : ℓ ≠ .t d) : cat (a.put (some d) v) W ℓ = cat a W ℓ := by
  cases ℓ with
  | t i =>
    have : i ≠ d := fun e => h (by rw [e])
    exact tmps_put_ne a v this
  | o b j => rfl
instance (ℓ : Loc) (d : Nat) : Decidable (ℓ = .t d) := by
  cases ℓ with
  | t i => exact if h : i = d then isTrue (by rw [h]) else isFalse (fun e => h (by injection e))
  | o b j => exact isFalse (fun e => by cases e)

theorem Inv.put (h : Inv N W0 U0 M a W U s) {d : Nat} (hd : d < N) {v : Value} {r : AV} (hv : VR W U v r) (ho : Sole W0 M a W U s d v r) :
    Inv N W0 U0 M (a.put (some d) v) W U (s.put (some d) r) where
  sz := by simpa [Act.put] using h.sz
  df := h.df
  fr := h.fr
  tv := fun i x hx => by
    by_cases hi : i = d
    · subst hi
      rw [tmps_put_same a v (by rw [h.sz]; exact hd)]
      simp only [St.put, upd_same, Option.some.injEq] at hx
      exact hx ▸ hv
    · rw [tmps_put_ne a v hi]
      simp only [St.put, upd_ne _ _ hi] at hx
      exact h.tv i x hx
  ob := h.ob
  ow := fun ℓ x hx => by
    by_cases hl : ℓ = .t d
    · subst hl
      rw [at_put_same] at hx
      cases hx
      have hc : cat (a.put (some d) v) W (.t d) = v := tmps_put_same a v (by rw [h.sz]; exact hd)
      rw [hc]
      unfold Own1
      split
      · exact (ho _ _ _ rfl).1
      · trivial
    · rw [at_put_ne hl] at hx
      rw [cat_put_ne hl]
      exact h.ow ℓ x hx
  ap := fun ℓ ℓ' e sz els e' sz' els' hne h1 h2 g hg => by
    have hc : cat (a.put (some d) v) W (.t d) = v := tmps_put_same a v (by rw [h.sz]; exact hd)
    by_cases hl : ℓ = .t d
    · subst hl
      rw [hc] at hg
      rw [at_put_same] at h1
      have hl' : ℓ' ≠ .t d := fun e => hne e.symm
      rw [at_put_ne hl'] at h2
      rw [cat_put_ne hl']
      cases h1
      exact ((ho _ _ _ rfl).2 g hg).2 ℓ' hl' ⟨_, _, _, h2⟩
    · rw [at_put_ne hl] at h1
      rw [cat_put_ne hl] at hg
      by_cases hl' : ℓ' = .t d
      · subst hl'
        rw [hc]
        rw [at_put_same] at h2
        cases h2
        intro hg'
        exact ((ho _ _ _ rfl).2 g hg').2 ℓ hl ⟨_, _, _, h1⟩ hg
      · rw [at_put_ne hl'] at h2
        rw [cat_put_ne hl']
        exact h.ap ℓ ℓ' e sz els e' sz' els' hne h1 h2 g hg
  no := fun ℓ e sz els h1 g hg => by
    have hc : cat (a.put (some d) v) W (.t d) = v := tmps_put_same a v (by rw [h.sz]; exact hd)
    by_cases hl : ℓ = .t d
    · subst hl
      rw [hc] at hg
      rw [at_put_same] at h1
      cases h1
      exact ((ho _ _ _ rfl).2 g hg).1
    · rw [at_put_ne hl] at h1
      rw [cat_put_ne hl] at hg
      exact h.no ℓ e sz els h1 g hg

/-- Something that holds no right to a row. -/
theorem Sole.plain {d : Nat} {v : Value} {r : AV} (h : ∀ e sz els, r ≠ .sl (some e) sz els) : Sole W0 M a W U s d v r := fun e sz els hr => absurd hr (h e sz els)
/-- A row in a block that was not there. -/
theorem Sole.fresh {W' : World} {U' : Nat → Nat → Prop} (h : Inv N W0 U0 M a W U s) (he : Ext W U W' U') {d : Nat} {v : Value} {r : AV} (ho : Own1 W' U' (W.heap.size ≤ ·) v r) : Sole W0 M a W' U' s d v r := by
  intro e sz els hr
  subst hr
  simp only [Own1] at ho
  refine ⟨?_, fun g hg => ?_⟩
  · rcases ho with ho | ⟨g, cap, cur, h0, hB, h1⟩
    · exact .inl ho
    · exact .inr ⟨g, cap, cur, h0, .inl (Nat.le_trans h.fr.size hB), h1⟩
  · have hge : W.heap.size ≤ g := by
      rcases ho with ⟨rfl, _⟩ | ⟨g', cap, cur, rfl, hB, _⟩
      · simp [Value.ownBlock] at hg
      · simp [Value.ownBlock] at hg
        omega
    refine ⟨?_, fun ℓ _ ⟨e', sz', els', hl⟩ hg' => ?_⟩
    · cases hs : s.o g with
      | none => rfl
      | some cs => have := h.ob_lt g cs hs; omega
    · rw [cat_ext he.b h.ob_lt hl] at hg'
      have h1 := h.ow ℓ _ hl
      simp only [Own1] at h1
      have := h1.lt hg'
      omega

theorem Inv.putO (h : Inv N W0 U0 M a W U s) {d : Option Nat} (hd : ∀ i, d = some i → i < N) {v : Value} {r : AV} (hv : VR W U v r) (ho : ∀ i, d = some i → Sole W0 M a W U s i v r) :
    Inv N W0 U0 M (a.put d v) W U (s.put d r) := by
  cases d with
  | none => exact h
  | some i => exact h.put (hd i rfl) hv (ho i rfl)
end
end Go.Proofs.YtedcagoilpaafaaDoor
