/- plain laws: the document's table of fronts -/
import Derived.Test.YtedcagoilpaafaaDoorNg
namespace Go.Proofs.YtedcagoilpaafaaDoor
set_option linter.all false
theorem mt_one {c : UInt8} (h : c ≠ 42) (t : List UInt8) : mt [c] t = true ↔ ∃ x, t = [x] ∧ (c = 63 ∨ c = x) := by
  cases t with
  | nil => rw [mt_nil h]; simp
  | cons x t =>
    rw [mt_char h, Bool.and_eq_true, Bool.or_eq_true, decide_eq_true_eq, decide_eq_true_eq]
    cases t with
    | nil => simp [mt]
    | cons y t => simp [mt]
theorem mt_snoc_char {q : List UInt8} {c : UInt8} (h : c ≠ 42) (t : List UInt8) : mt (q ++ [c]) t = true ↔ ∃ u x, t = u ++ [x] ∧ mt q u = true ∧ (c = 63 ∨ c = x) := by
  rw [mt_cat]
  constructor
  · rintro ⟨u, v, rfl, h1, h2⟩
    obtain ⟨x, rfl, hx⟩ := (mt_one h v).1 h2
    exact ⟨u, x, rfl, h1, hx⟩
  · rintro ⟨u, x, rfl, h1, h2⟩
    exact ⟨u, [x], rfl, h1, (mt_one h _).2 ⟨x, rfl, h2⟩⟩
theorem mt_st (t : List UInt8) : mt [42] t = true := by
  rw [mt_star]; exact ⟨t.length, Nat.le_refl _, by simp [mt]⟩
theorem mt_snoc_star (q t : List UInt8) : mt (q ++ [42]) t = true ↔ ∃ u v, t = u ++ v ∧ mt q u = true := by
  rw [mt_cat]
  constructor
  · rintro ⟨u, v, rfl, h1, _⟩; exact ⟨u, v, rfl, h1⟩
  · rintro ⟨u, v, rfl, h1⟩; exact ⟨u, v, rfl, h1, mt_st v⟩
theorem take_snoc {s : List UInt8} {k : Nat} (h : k < s.length) : s.take (k + 1) = s.take k ++ [s.getD k 0] := by
  rw [List.take_succ]; simp [h]
/-- Row i of the table: which fronts of s the front of i signs matches. -/
def fr (p s : List UInt8) (i k : Nat) : Bool := mt (p.take i) (s.take k)
theorem fr_star0 {p s : List UInt8} {i : Nat} (hi : i < p.length) (hc : p.getD i 0 = 42) : fr p s (i + 1) 0 = fr p s i 0 := by
  unfold fr
  rw [take_snoc hi, hc, Bool.eq_iff_iff, mt_snoc_star]
  constructor
  · rintro ⟨u, v, h1, h2⟩
    have : u = [] := by
      have h3 := congrArg List.length h1
      simp at h3
      exact List.length_eq_zero_iff.1 (by omega)
    subst this; simpa using h2
  · intro h; exact ⟨[], [], by simp, by simpa using h⟩
theorem fr_star {p s : List UInt8} {i k : Nat} (hi : i < p.length) (hk : k < s.length) (hc : p.getD i 0 = 42) : fr p s (i + 1) (k + 1) = (fr p s i (k + 1) || fr p s (i + 1) k) := by
  unfold fr
  rw [take_snoc hi, hc, Bool.eq_iff_iff, Bool.or_eq_true, mt_snoc_star, mt_snoc_star]
  constructor
  · rintro ⟨u, v, h1, h2⟩
    by_cases hv : v = []
    · subst hv; rw [List.append_nil] at h1; rw [h1]; exact .inl h2
    · obtain ⟨v', x, rfl⟩ : ∃ v' x, v = v' ++ [x] := ⟨v.dropLast, v.getLast hv, (List.dropLast_concat_getLast hv).symm⟩
      rw [take_snoc hk, ← List.append_assoc] at h1
      exact .inr ⟨u, v', (List.append_inj' h1 rfl).1, h2⟩
  · rintro (h | ⟨u, v, h1, h2⟩)
    · exact ⟨_, [], by simp, h⟩
    · exact ⟨u, v ++ [s.getD k 0], by rw [take_snoc hk, h1, List.append_assoc], h2⟩
theorem fr_char0 {p s : List UInt8} {i : Nat} (hi : i < p.length) (hc : p.getD i 0 ≠ 42) : fr p s (i + 1) 0 = false := by
  unfold fr
  rw [take_snoc hi, Bool.eq_false_iff]
  intro h
  obtain ⟨u, x, h1, _⟩ := (mt_snoc_char hc _).1 h
  simp at h1
theorem fr_char {p s : List UInt8} {i k : Nat} (hi : i < p.length) (hk : k < s.length) (hc : p.getD i 0 ≠ 42) : fr p s (i + 1) (k + 1) = (fr p s i k && (decide (p.getD i 0 = 63) || decide (p.getD i 0 = s.getD k 0))) := by
  unfold fr
  rw [take_snoc hi, take_snoc hk, Bool.eq_iff_iff, mt_snoc_char hc, Bool.and_eq_true, Bool.or_eq_true, decide_eq_true_eq, decide_eq_true_eq]
  constructor
  · rintro ⟨u, x, h1, h2, h3⟩
    obtain ⟨e1, e2⟩ := List.append_inj' h1 rfl
    cases e2
    rw [e1]; exact ⟨h2, h3⟩
  · rintro ⟨h1, h2⟩
    exact ⟨_, _, rfl, h1, h2⟩
/-- A row as it lies: k places told, the others not yet. -/
def rowT (p s : List UInt8) (i k : Nat) : List Bool := (List.range (s.length + 1)).map fun j => decide (j < k) && fr p s i j
theorem rowT_len (p s : List UInt8) (i k : Nat) : (rowT p s i k).length = s.length + 1 := by simp [rowT]
theorem rowT_get {p s : List UInt8} {i k j : Nat} (hj : j ≤ s.length) (hk : j < k) : (rowT p s i k).getD j false = fr p s i j := by
  simp [rowT, List.getD, List.getElem?_range (show j < s.length + 1 by omega), hk]
theorem rowT_set {p s : List UInt8} {i k : Nat} (hk : k ≤ s.length) {b : Bool} (hb : b = fr p s i k) : (rowT p s i k).set k b = rowT p s i (k + 1) := by
  subst hb
  apply List.ext_getElem
  · simp [rowT]
  · intro j h1 h2
    rw [List.getElem_set]
    simp only [rowT, List.getElem_map, List.getElem_range]
    by_cases e : k = j
    · subst e; simp
    · rw [if_neg e]
      have : (j < k) ↔ (j < k + 1) := by omega
      simp [this]
theorem rowT_0 (p s : List UInt8) (i : Nat) : rowT p s i 0 = List.replicate (s.length + 1) false := by
  apply List.ext_getElem
  · simp [rowT]
  · intro j h1 h2; simp [rowT]
theorem rowT_first (p s : List UInt8) : (List.replicate (s.length + 1) false).set 0 true = rowT p s 0 (s.length + 1) := by
  apply List.ext_getElem
  · simp [rowT]
  · intro j h1 h2
    rw [List.getElem_set]
    simp only [rowT, List.getElem_map, List.getElem_range, fr, List.take_zero]
    simp only [List.length_set, List.length_replicate] at h1
    by_cases e : 0 = j
    · subst e; simp [mt]
    · rw [if_neg e, List.getElem_replicate]
      cases hs : s.take j with
      | nil =>
        have := congrArg List.length hs
        simp only [List.length_take, List.length_nil] at this
        omega
      | cons a b => simp [mt]
theorem row_star {p s : List UInt8} {i k : Nat} (v : Bool) (hi : i < p.length) (hk : k ≤ s.length) (hc : p.getD i 0 = 42) (hv : v = ((rowT p s i (s.length + 1)).getD k false || (decide (0 < k) && (rowT p s (i + 1) k).getD (k - 1) false))) :
    (rowT p s (i + 1) k).set k v = rowT p s (i + 1) (k + 1) := by
  refine rowT_set hk ?_
  rw [hv, rowT_get hk (by omega)]
  cases k with
  | zero => simp [fr_star0 hi hc]
  | succ k => rw [Nat.add_sub_cancel, rowT_get (by omega) (by omega), fr_star hi (by omega) hc]; simp
theorem row_char {p s : List UInt8} {i k : Nat} (v : Bool) (hi : i < p.length) (hk : k ≤ s.length) (hc : ¬ p.getD i 0 = 42)
    (hv : v = (decide (0 < k) && ((rowT p s i (s.length + 1)).getD (k - 1) false && (decide (p.getD i 0 = 63) || decide (p.getD i 0 = s.getD (k - 1) 0))))) :
    (rowT p s (i + 1) k).set k v = rowT p s (i + 1) (k + 1) := by
  refine rowT_set hk ?_
  rw [hv]
  cases k with
  | zero => simp [fr_char0 hi hc]
  | succ k => rw [Nat.add_sub_cancel, rowT_get (by omega) (by omega), fr_char hi (by omega) hc]; simp
theorem rowT_end (p s : List UInt8) : (rowT p s p.length (s.length + 1)).getD s.length false = mt p s := by
  rw [rowT_get (Nat.le_refl _) (by omega)]; simp [fr]
end Go.Proofs.YtedcagoilpaafaaDoor
