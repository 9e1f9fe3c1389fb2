/- plain laws: patterns, put together -/
import Derived.Test.YtedcagoilpaafaaDoorGlb
namespace Go.Proofs.YtedcagoilpaafaaDoor
set_option linter.all false
theorem mayG_dec (p : List UInt8) : mayG p = decide (p ≠ [] ∧ p.length ≤ 40 ∧ ∀ j, j < p.length → sgn (p.getD j 0)) := by
  unfold mayG mayGQ; rw [decide_eq_decide]
theorem sgn_all (p : List UInt8) : (∀ j, j < p.length → sgn (p.getD j 0)) ↔ ∀ c ∈ p, sgn c := by
  constructor
  · intro h c hc
    obtain ⟨j, hj, e⟩ := List.getElem_of_mem hc
    have := h j hj
    simpa [List.getD, List.getElem?_eq_getElem hj, e] using this
  · intro h j hj
    have := h p[j] (List.getElem_mem hj)
    simpa [List.getD, List.getElem?_eq_getElem hj] using this
theorem mayG_cat {p q : List UInt8} (hp : ∀ c ∈ p, sgn c) (hq : ∀ c ∈ q, sgn c) (hl : p.length + q.length ≤ 40) (hn : 0 < p.length + q.length) : mayG (p ++ q) = true := by
  rw [mayG_iff]
  refine ⟨fun e => ?_, by simp; omega, (sgn_all _).2 fun c hc => ?_⟩
  · have : (p ++ q).length = 0 := by rw [e]; rfl
    simp only [List.length_append] at this; omega
  · rcases List.mem_append.1 hc with h | h
    · exact hp c h
    · exact hq c h
theorem mayG_sgn {p : List UInt8} (h : mayG p = true) : ∀ c ∈ p, sgn c := (sgn_all p).1 (mayG_iff.1 h).2.2
theorem plain_may {p : List UInt8} (h : plainP p = true) : mayG p = true ∧ ∀ c ∈ p, c ≠ 42 ∧ c ≠ 63 := by
  simp only [plainP, plainQ, Bool.and_eq_true, List.all_eq_true] at h
  refine ⟨h.1, fun c hc => ?_⟩
  have := h.2 c hc
  constructor
  · intro e; subst e; simp at this
  · intro e; subst e; simp at this
theorem mt_front : ∀ (a q s : List UInt8), (∀ c ∈ a, c ≠ 42 ∧ c ≠ 63) → (mt (a ++ q) s = true ↔ ∃ t, s = a ++ t ∧ mt q t = true)
  | [], q, s, _ => by simp
  | c :: a, q, [], h => by
    rw [List.cons_append, mt_nil (h c (by simp)).1]
    simp
  | c :: a, q, x :: s, h => by
    rw [List.cons_append, mt_char (h c (by simp)).1, Bool.and_eq_true, mt_front a q s fun d hd => h d (by simp [hd])]
    have h63 : decide (c = 63) = false := decide_eq_false (h c (by simp)).2
    rw [h63, Bool.false_or, decide_eq_true_eq]
    constructor
    · rintro ⟨rfl, t, rfl, ht⟩; exact ⟨t, rfl, ht⟩
    · rintro ⟨t, e, ht⟩
      simp only [List.cons_append, List.cons.injEq] at e
      exact ⟨e.1.symm, t, e.2, ht⟩
theorem mt_nil2 (s : List UInt8) : mt [] s = true ↔ s = [] := by simp [mt]
theorem mt_plain {a : List UInt8} (h : ∀ c ∈ a, c ≠ 42 ∧ c ≠ 63) (s : List UInt8) : mt a s = true ↔ s = a := by
  have := mt_front a [] s h
  rw [List.append_nil] at this
  rw [this]
  simp [mt_nil2]
theorem mt_any (p s : List UInt8) : mt (63 :: p) s = true ↔ ∃ x t, s = x :: t ∧ mt p t = true := by
  cases s with
  | nil => rw [mt_nil (by decide)]; simp
  | cons x t =>
    rw [mt_char (by decide)]
    constructor
    · intro h; exact ⟨x, t, rfl, by simpa using h⟩
    · rintro ⟨y, u, e, h⟩
      cases e
      simpa using h
theorem mt_star' (p s : List UInt8) : mt (42 :: p) s = true ↔ ∃ u t, s = u ++ t ∧ mt p t = true := by
  rw [mt_star]
  constructor
  · rintro ⟨j, h1, h2⟩; exact ⟨s.take j, s.drop j, (List.take_append_drop j s).symm, h2⟩
  · rintro ⟨u, t, rfl, ht⟩; exact ⟨u.length, by simp, by simpa using ht⟩
theorem mt_stars2 (p s : List UInt8) : mt (42 :: 42 :: p) s = true ↔ mt (42 :: p) s = true := by
  rw [mt_star', mt_star']
  constructor
  · rintro ⟨u, t, rfl, ht⟩
    obtain ⟨u', t', rfl, h⟩ := (mt_star' _ _).1 ht
    exact ⟨u ++ u', t', by simp, h⟩
  · rintro ⟨u, t, rfl, ht⟩
    exact ⟨u, t, rfl, (mt_star' _ _).2 ⟨[], t, rfl, ht⟩⟩
/-- Fronts and ends. -/
theorem mt_fe {a b : List UInt8} (ha : ∀ c ∈ a, c ≠ 42 ∧ c ≠ 63) (hb : ∀ c ∈ b, c ≠ 42 ∧ c ≠ 63) (s : List UInt8) :
    mt (a ++ 42 :: b) s = true ↔ a.length + b.length ≤ s.length ∧ s.take a.length = a ∧ s.drop (s.length - b.length) = b := by
  rw [mt_front a _ s ha]
  constructor
  · rintro ⟨t, rfl, ht⟩
    obtain ⟨u, v, rfl, hv⟩ := (mt_star' _ _).1 ht
    rw [mt_plain hb] at hv
    subst hv
    refine ⟨by simp, by simp, ?_⟩
    rw [← List.append_assoc, List.drop_left' (by simp only [List.length_append]; omega)]
  · rintro ⟨h1, h2, h3⟩
    refine ⟨s.drop a.length, by conv => lhs; rw [← List.take_append_drop a.length s, h2], ?_⟩
    rw [mt_star']
    refine ⟨(s.drop a.length).take (s.length - b.length - a.length), b, ?_, (mt_plain hb b).2 rfl⟩
    have : b = (s.drop a.length).drop (s.length - b.length - a.length) := by
      rw [List.drop_drop, show a.length + (s.length - b.length - a.length) = s.length - b.length by omega, h3]
    conv => lhs; rw [← List.take_append_drop (s.length - b.length - a.length) (s.drop a.length), ← this]
/-- A pattern of two. -/
theorem mt_cat : ∀ (p q s : List UInt8), mt (p ++ q) s = true ↔ ∃ u t, s = u ++ t ∧ mt p u = true ∧ mt q t = true
  | [], q, s => ⟨fun h => ⟨[], s, rfl, rfl, h⟩, fun ⟨u, t, e, h1, h2⟩ => by rw [mt_nil2] at h1; subst h1; subst e; exact h2⟩
  | c :: p, q, s => by
    rw [List.cons_append]
    by_cases h : c = 42
    · subst h
      rw [mt_star']
      constructor
      · rintro ⟨u, t, rfl, ht⟩
        obtain ⟨u', t', rfl, h1, h2⟩ := (mt_cat p q t).1 ht
        exact ⟨u ++ u', t', by simp, (mt_star' _ _).2 ⟨u, u', rfl, h1⟩, h2⟩
      · rintro ⟨u, t, rfl, h1, h2⟩
        obtain ⟨u1, u2, rfl, h3⟩ := (mt_star' _ _).1 h1
        exact ⟨u1, u2 ++ t, by simp, (mt_cat p q _).2 ⟨u2, t, rfl, h3, h2⟩⟩
    · cases s with
      | nil =>
        rw [mt_nil h]
        constructor
        · intro e; cases e
        · rintro ⟨u, t, e, h1, _⟩
          have : u = [] := by
            have := congrArg List.length e
            simp only [List.length_nil, List.length_append] at this
            exact List.length_eq_zero_iff.1 (by omega)
          subst this
          rw [mt_nil h] at h1; cases h1
      | cons x s =>
        rw [mt_char h, Bool.and_eq_true, mt_cat p q s]
        constructor
        · rintro ⟨h0, u, t, rfl, h1, h2⟩
          exact ⟨x :: u, t, rfl, by rw [mt_char h, h0, h1]; rfl, h2⟩
        · rintro ⟨u, t, e, h1, h2⟩
          cases u with
          | nil => rw [mt_nil h] at h1; cases h1
          | cons y u =>
            simp only [List.cons_append, List.cons.injEq] at e
            rw [mt_char h, Bool.and_eq_true, ← e.1] at h1
            exact ⟨h1.1, u, t, e.2, h1.2, h2⟩
end Go.Proofs.YtedcagoilpaafaaDoor
