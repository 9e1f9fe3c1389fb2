import Derived.Test.YtbjmcmgekcmbpabDoorK12
import Derived.Lib.FieldsP
import Derived.Lib.TrimUEq
import Derived.Test.YtbjmcmgekcmbpabDoorK11
import Derived.WalkKit
import Derived.Laws.OwnMore
import Derived.Shelf.Strings.FieldsFuncAny
/- plain laws: patterns, put together -/
namespace Go.Proofs.YtbjmcmgekcmbpabDoor
set_option linter.all false
theorem mayG_dec (p : List UInt8) : mayG p = decide (p ≠ [] ∧ p.length ≤ 40 ∧ ∀ j, j < p.length → sgn (p.getD j 0)) := by
  unfold mayG mayGQ; rw [decide_eq_decide]
theorem sgn_all (p : List UInt8) : (∀ j, j < p.length → sgn (p.getD j 0)) ↔ ∀ c ∈ p, sgn c := by
  constructor
  · intro h c hc
    obtain ⟨j, hj, e⟩ := List.getElem_of_mem hc
    have := h j hj
    simpa [List.getD, List.getElem?_eq_getElem hj, e] using this
  · intro h j hj
    have := h p[j] (List.getElem_mem hj)
    simpa [List.getD, List.getElem?_eq_getElem hj] using this
theorem mayG_cat {p q : List UInt8} (hp : ∀ c ∈ p, sgn c) (hq : ∀ c ∈ q, sgn c) (hl : p.length + q.length ≤ 40) (hn : 0 < p.length + q.length) : mayG (p ++ q) = true := by
  rw [mayG_iff]
  refine ⟨fun e => ?_, by simp; omega, (sgn_all _).2 fun c hc => ?_⟩
  · have : (p ++ q).length = 0 := by rw [e]; rfl
    simp only [List.length_append] at this; omega
  · rcases List.mem_append.1 hc with h | h
    · exact hp c h
    · exact hq c h
theorem mayG_sgn {p : List UInt8} (h : mayG p = true) : ∀ c ∈ p, sgn c := (sgn_all p).1 (mayG_iff.1 h).2.2
theorem plain_may {p : List UInt8} (h : plainP p = true) : mayG p = true ∧ ∀ c ∈ p, c ≠ 42 ∧ c ≠ 63 := by
  simp only [plainP, plainQ, Bool.and_eq_true, List.all_eq_true] at h
  refine ⟨h.1, fun c hc => ?_⟩
  have := h.2 c hc
  constructor
  · intro e; subst e; simp at this
  · intro e; subst e; simp at this
theorem mt_front : ∀ (a q s : List UInt8), (∀ c ∈ a, c ≠ 42 ∧ c ≠ 63) → (mt (a ++ q) s = true ↔ ∃ t, s = a ++ t ∧ mt q t = true)
  | [], q, s, _ => by simp
  | c :: a, q, [], h => by
    rw [List.cons_append, mt_nil (h c (by simp)).1]
    simp
  | c :: a, q, x :: s, h => by
    rw [List.cons_append, mt_char (h c (by simp)).1, Bool.and_eq_true, mt_front a q s fun d hd => h d (by simp [hd])]
    have h63 : decide (c = 63) = false := decide_eq_false (h c (by simp)).2
    rw [h63, Bool.false_or, decide_eq_true_eq]
    constructor
    · rintro ⟨rfl, t, rfl, ht⟩; exact ⟨t, rfl, ht⟩
    · rintro ⟨t, e, ht⟩
      simp only [List.cons_append, List.cons.injEq] at e
      exact ⟨e.1.symm, t, e.2, ht⟩
theorem mt_nil2 (s : List UInt8) : mt [] s = true ↔ s = [] := by simp [mt]
theorem mt_plain {a : List UInt8} (h : ∀ c ∈ a, c ≠ 42 ∧ c ≠ 63) (s : List UInt8) : mt a s = true ↔ s = a := by
  have := mt_front a [] s h
  rw [List.append_nil] at this
  rw [this]
  simp [mt_nil2]
theorem mt_any (p s : List UInt8) : mt (63 :: p) s = true ↔ ∃ x t, s = x :: t ∧ mt p t = true := by
  cases s with
  | nil => rw [mt_nil (by decide)]; simp
  | cons x t =>
    rw [mt_char (by decide)]
    constructor
    · intro h; exact ⟨x, t, rfl, by simpa using h⟩
    · rintro ⟨y, u, e, h⟩
      cases e
      simpa using h
theorem mt_star' (p s : List UInt8) : mt (42 :: p) s = true ↔ ∃ u t, s = u ++ t ∧ mt p t = true := by
  rw [mt_star]
  constructor
  · rintro ⟨j, h1, h2⟩; exact ⟨s.take j, s.drop j, (List.take_append_drop j s).symm, h2⟩
  · rintro ⟨u, t, rfl, ht⟩; exact ⟨u.length, by simp, by simpa using ht⟩
theorem mt_stars2 (p s : List UInt8) : mt (42 :: 42 :: p) s = true ↔ mt (42 :: p) s = true := by
  rw [mt_star', mt_star']
  constructor
  · rintro ⟨u, t, rfl, ht⟩
    obtain ⟨u', t', rfl, h⟩ := (mt_star' _ _).1 ht
    exact ⟨u ++ u', t', by simp, h⟩
  · rintro ⟨u, t, rfl, ht⟩
    exact ⟨u, t, rfl, (mt_star' _ _).2 ⟨[], t, rfl, ht⟩⟩
/-- Fronts and ends. -/
theorem mt_fe {a b : List UInt8} (ha : ∀ c ∈ a, c ≠ 42 ∧ c ≠ 63) (hb : ∀ c ∈ b, c ≠ 42 ∧ c ≠ 63) (s : List UInt8) :
    mt (a ++ 42 :: b) s = true ↔ a.length + b.length ≤ s.length ∧ s.take a.length = a ∧ s.drop (s.length - b.length) = b := by
  rw [mt_front a _ s ha]
  constructor
  · rintro ⟨t, rfl, ht⟩
    obtain ⟨u, v, rfl, hv⟩ := (mt_star' _ _).1 ht
    rw [mt_plain hb] at hv
    subst hv
    refine ⟨by simp, by simp, ?_⟩
    rw [← List.append_assoc, List.drop_left' (by simp only [List.length_append]; omega)]
  · rintro ⟨h1, h2, h3⟩
    refine ⟨s.drop a.length, by conv => lhs; rw [← List.take_append_drop a.length s, h2], ?_⟩
    rw [mt_star']
    refine ⟨(s.drop a.length).take (s.length - b.length - a.length), b, ?_, (mt_plain hb b).2 rfl⟩
    have : b = (s.drop a.length).drop (s.length - b.length - a.length) := by
      rw [List.drop_drop, show a.length + (s.length - b.length - a.length) = s.length - b.length by omega, h3]
    conv => lhs; rw [← List.take_append_drop (s.length - b.length - a.length) (s.drop a.length), ← this]
/-- A pattern of two. -/
theorem mt_cat : ∀ (p q s : List UInt8), mt (p ++ q) s = true ↔ ∃ u t, s = u ++ t ∧ mt p u = true ∧ mt q t = true
  | [], q, s => ⟨fun h => ⟨[], s, rfl, rfl, h⟩, fun ⟨u, t, e, h1, h2⟩ => by rw [mt_nil2] at h1; subst h1; subst e; exact h2⟩
  | c :: p, q, s => by
    rw [List.cons_append]
    by_cases h : c = 42
    · subst h
      rw [mt_star']
      constructor
      · rintro ⟨u, t, rfl, ht⟩
        obtain ⟨u', t', rfl, h1, h2⟩ := (mt_cat p q t).1 ht
        exact ⟨u ++ u', t', by simp, (mt_star' _ _).2 ⟨u, u', rfl, h1⟩, h2⟩
      · rintro ⟨u, t, rfl, h1, h2⟩
        obtain ⟨u1, u2, rfl, h3⟩ := (mt_star' _ _).1 h1
        exact ⟨u1, u2 ++ t, by simp, (mt_cat p q _).2 ⟨u2, t, rfl, h3, h2⟩⟩
    · cases s with
      | nil =>
        rw [mt_nil h]
        constructor
        · intro e; cases e
        · rintro ⟨u, t, e, h1, _⟩
          have : u = [] := by
            have := congrArg List.length e
            simp only [List.length_nil, List.length_append] at this
            exact List.length_eq_zero_iff.1 (by omega)
          subst this
          rw [mt_nil h] at h1; cases h1
      | cons x s =>
        rw [mt_char h, Bool.and_eq_true, mt_cat p q s]
        constructor
        · rintro ⟨h0, u, t, rfl, h1, h2⟩
          exact ⟨x :: u, t, rfl, by rw [mt_char h, h0, h1]; rfl, h2⟩
        · rintro ⟨u, t, e, h1, h2⟩
          cases u with
          | nil => rw [mt_nil h] at h1; cases h1
          | cons y u =>
            simp only [List.cons_append, List.cons.injEq] at e
            rw [mt_char h, Bool.and_eq_true, ← e.1] at h1
            exact ⟨h1.1, u, t, e.2, h1.2, h2⟩
end Go.Proofs.YtbjmcmgekcmbpabDoor

/- plain laws: the document's table of fronts -/
namespace Go.Proofs.YtbjmcmgekcmbpabDoor
set_option linter.all false
theorem mt_one {c : UInt8} (h : c ≠ 42) (t : List UInt8) : mt [c] t = true ↔ ∃ x, t = [x] ∧ (c = 63 ∨ c = x) := by
  cases t with
  | nil => rw [mt_nil h]; simp
  | cons x t =>
    rw [mt_char h, Bool.and_eq_true, Bool.or_eq_true, decide_eq_true_eq, decide_eq_true_eq]
    cases t with
    | nil => simp [mt]
    | cons y t => simp [mt]
theorem mt_snoc_char {q : List UInt8} {c : UInt8} (h : c ≠ 42) (t : List UInt8) : mt (q ++ [c]) t = true ↔ ∃ u x, t = u ++ [x] ∧ mt q u = true ∧ (c = 63 ∨ c = x) := by
  rw [mt_cat]
  constructor
  · rintro ⟨u, v, rfl, h1, h2⟩
    obtain ⟨x, rfl, hx⟩ := (mt_one h v).1 h2
    exact ⟨u, x, rfl, h1, hx⟩
  · rintro ⟨u, x, rfl, h1, h2⟩
    exact ⟨u, [x], rfl, h1, (mt_one h _).2 ⟨x, rfl, h2⟩⟩
theorem mt_st (t : List UInt8) : mt [42] t = true := by
  rw [mt_star]; exact ⟨t.length, Nat.le_refl _, by simp [mt]⟩
theorem mt_snoc_star (q t : List UInt8) : mt (q ++ [42]) t = true ↔ ∃ u v, t = u ++ v ∧ mt q u = true := by
  rw [mt_cat]
  constructor
  · rintro ⟨u, v, rfl, h1, _⟩; exact ⟨u, v, rfl, h1⟩
  · rintro ⟨u, v, rfl, h1⟩; exact ⟨u, v, rfl, h1, mt_st v⟩
theorem take_snoc {s : List UInt8} {k : Nat} (h : k < s.length) : s.take (k + 1) = s.take k ++ [s.getD k 0] := by
  rw [List.take_succ]; simp [h]
/-- Row i of the table: which fronts of s the front of i signs matches. -/
def fr (p s : List UInt8) (i k : Nat) : Bool := mt (p.take i) (s.take k)
theorem fr_star0 {p s : List UInt8} {i : Nat} (hi : i < p.length) (hc : p.getD i 0 = 42) : fr p s (i + 1) 0 = fr p s i 0 := by
  unfold fr
  rw [take_snoc hi, hc, Bool.eq_iff_iff, mt_snoc_star]
  constructor
  · rintro ⟨u, v, h1, h2⟩
    have : u = [] := by
      have h3 := congrArg List.length h1
      simp at h3
      exact List.length_eq_zero_iff.1 (by omega)
    subst this; simpa using h2
  · intro h; exact ⟨[], [], by simp, by simpa using h⟩
theorem fr_star {p s : List UInt8} {i k : Nat} (hi : i < p.length) (hk : k < s.length) (hc : p.getD i 0 = 42) : fr p s (i + 1) (k + 1) = (fr p s i (k + 1) || fr p s (i + 1) k) := by
  unfold fr
  rw [take_snoc hi, hc, Bool.eq_iff_iff, Bool.or_eq_true, mt_snoc_star, mt_snoc_star]
  constructor
  · rintro ⟨u, v, h1, h2⟩
    by_cases hv : v = []
    · subst hv; rw [List.append_nil] at h1; rw [h1]; exact .inl h2
    · obtain ⟨v', x, rfl⟩ : ∃ v' x, v = v' ++ [x] := ⟨v.dropLast, v.getLast hv, (List.dropLast_concat_getLast hv).symm⟩
      rw [take_snoc hk, ← List.append_assoc] at h1
      exact .inr ⟨u, v', (List.append_inj' h1 rfl).1, h2⟩
  · rintro (h | ⟨u, v, h1, h2⟩)
    · exact ⟨_, [], by simp, h⟩
    · exact ⟨u, v ++ [s.getD k 0], by rw [take_snoc hk, h1, List.append_assoc], h2⟩
theorem fr_char0 {p s : List UInt8} {i : Nat} (hi : i < p.length) (hc : p.getD i 0 ≠ 42) : fr p s (i + 1) 0 = false := by
  unfold fr
  rw [take_snoc hi, Bool.eq_false_iff]
  intro h
  obtain ⟨u, x, h1, _⟩ := (mt_snoc_char hc _).1 h
  simp at h1
theorem fr_char {p s : List UInt8} {i k : Nat} (hi : i < p.length) (hk : k < s.length) (hc : p.getD i 0 ≠ 42) : fr p s (i + 1) (k + 1) = (fr p s i k && (decide (p.getD i 0 = 63) || decide (p.getD i 0 = s.getD k 0))) := by
  unfold fr
  rw [take_snoc hi, take_snoc hk, Bool.eq_iff_iff, mt_snoc_char hc, Bool.and_eq_true, Bool.or_eq_true, decide_eq_true_eq, decide_eq_true_eq]
  constructor
  · rintro ⟨u, x, h1, h2, h3⟩
    obtain ⟨e1, e2⟩ := List.append_inj' h1 rfl
    cases e2
    rw [e1]; exact ⟨h2, h3⟩
  · rintro ⟨h1, h2⟩
    exact ⟨_, _, rfl, h1, h2⟩
/-- A row as it lies: k places told, the others not yet. -/
def rowT (p s : List UInt8) (i k : Nat) : List Bool := (List.range (s.length + 1)).map fun j => decide (j < k) && fr p s i j
theorem rowT_len (p s : List UInt8) (i k : Nat) : (rowT p s i k).length = s.length + 1 := by simp [rowT]
theorem rowT_get {p s : List UInt8} {i k j : Nat} (hj : j ≤ s.length) (hk : j < k) : (rowT p s i k).getD j false = fr p s i j := by
  simp [rowT, List.getD, List.getElem?_range (show j < s.length + 1 by omega), hk]
theorem rowT_set {p s : List UInt8} {i k : Nat} (hk : k ≤ s.length) {b : Bool} (hb : b = fr p s i k) : (rowT p s i k).set k b = rowT p s i (k + 1) := by
  subst hb
  apply List.ext_getElem
  · simp [rowT]
  · intro j h1 h2
    rw [List.getElem_set]
    simp only [rowT, List.getElem_map, List.getElem_range]
    by_cases e : k = j
    · subst e; simp
    · rw [if_neg e]
      have : (j < k) ↔ (j < k + 1) := by omega
      simp [this]
theorem rowT_0 (p s : List UInt8) (i : Nat) : rowT p s i 0 = List.replicate (s.length + 1) false := by
  apply List.ext_getElem
  · simp [rowT]
  · intro j h1 h2; simp [rowT]
theorem rowT_first (p s : List UInt8) : (List.replicate (s.length + 1) false).set 0 true = rowT p s 0 (s.length + 1) := by
  apply List.ext_getElem
  · simp [rowT]
  · intro j h1 h2
    rw [List.getElem_set]
    simp only [rowT, List.getElem_map, List.getElem_range, fr, List.take_zero]
    simp only [List.length_set, List.length_replicate] at h1
    by_cases e : 0 = j
    · subst e; simp [mt]
    · rw [if_neg e, List.getElem_replicate]
      cases hs : s.take j with
      | nil =>
        have := congrArg List.length hs
        simp only [List.length_take, List.length_nil] at this
        omega
      | cons a b => simp [mt]
theorem row_star {p s : List UInt8} {i k : Nat} (v : Bool) (hi : i < p.length) (hk : k ≤ s.length) (hc : p.getD i 0 = 42) (hv : v = ((rowT p s i (s.length + 1)).getD k false || (decide (0 < k) && (rowT p s (i + 1) k).getD (k - 1) false))) :
    (rowT p s (i + 1) k).set k v = rowT p s (i + 1) (k + 1) := by
  refine rowT_set hk ?_
  rw [hv, rowT_get hk (by omega)]
  cases k with
  | zero => simp [fr_star0 hi hc]
  | succ k => rw [Nat.add_sub_cancel, rowT_get (by omega) (by omega), fr_star hi (by omega) hc]; simp
theorem row_char {p s : List UInt8} {i k : Nat} (v : Bool) (hi : i < p.length) (hk : k ≤ s.length) (hc : ¬ p.getD i 0 = 42)
    (hv : v = (decide (0 < k) && ((rowT p s i (s.length + 1)).getD (k - 1) false && (decide (p.getD i 0 = 63) || decide (p.getD i 0 = s.getD (k - 1) 0))))) :
    (rowT p s (i + 1) k).set k v = rowT p s (i + 1) (k + 1) := by
  refine rowT_set hk ?_
  rw [hv]
  cases k with
  | zero => simp [fr_char0 hi hc]
  | succ k => rw [Nat.add_sub_cancel, rowT_get (by omega) (by omega), fr_char hi (by omega) hc]; simp
theorem rowT_end (p s : List UInt8) : (rowT p s p.length (s.length + 1)).getD s.length false = mt p s := by
  rw [rowT_get (Nat.le_refl _) (by omega)]; simp [fr]
end Go.Proofs.YtbjmcmgekcmbpabDoor

/- chapter 20: patterns, the document's: what may be one -/
namespace Go.Proofs.YtbjmcmgekcmbpabDoor
set_option linter.all false
open Go.RowKit
set_option maxRecDepth 100000
theorem plainQ_iff (p : List UInt8) : plainQ p = true ↔ ∀ j, j < p.length → ¬ ((p.getD j 0).toNat = 42 ∨ (p.getD j 0).toNat = 63) := by
  have key : ∀ c : UInt8, (!(c == 42 || c == 63)) = true ↔ ¬ (c.toNat = 42 ∨ c.toNat = 63) := fun c => by
    simp only [Bool.not_eq_true', Bool.or_eq_false_iff, beq_eq_false_iff_ne, ne_eq, not_or]
    constructor
    · rintro ⟨a, b⟩; exact ⟨fun e => a (UInt8.toNat_inj.1 e), fun e => b (UInt8.toNat_inj.1 e)⟩
    · rintro ⟨a, b⟩; exact ⟨fun e => a (by rw [e]; rfl), fun e => b (by rw [e]; rfl)⟩
  unfold plainQ
  rw [List.all_eq_true]
  constructor
  · intro h j hj
    have := h p[j] (List.getElem_mem hj)
    rw [key] at this
    simpa [List.getD, List.getElem?_eq_getElem hj] using this
  · intro h c hc
    obtain ⟨j, hj, rfl⟩ := List.getElem_of_mem hc
    rw [key]
    have := h j hj
    simpa [List.getD, List.getElem?_eq_getElem hj] using this
theorem pl_bad {p : List UInt8} {k : Nat} (hk : k < p.length) (h : (p.getD k 0).toNat = 42 ∨ (p.getD k 0).toNat = 63) : plainP p = false := by
  have : plainQ p = false := Bool.eq_false_iff.2 fun g => (plainQ_iff p).1 g k hk h
  simp [plainP, this]
end Go.Proofs.YtbjmcmgekcmbpabDoor

/- chapter 21: a line's words: bytes 32 and 9 part them, a byte 35 ends the line; what strings.FieldsFunc gives -/
namespace Go.Proofs.YtbjmcmgekcmbpabDoor
set_option linter.all false
open Go.RowKit
set_option maxRecDepth 100000
def blk (c : UInt8) : Bool := decide (c = 32) || decide (c = 9)
def wgo : List UInt8 → List UInt8 → List (List UInt8)
  | cur, [] => if cur = [] then [] else [cur]
  | cur, c :: s => if blk c = true then (if cur = [] then wgo [] s else cur :: wgo [] s) else wgo (cur ++ [c]) s
def noHash (s : List UInt8) : List UInt8 := s.takeWhile fun c => decide (c ≠ 35)
def wordsL (s : List UInt8) : List (List UInt8) := wgo [] (noHash s)
theorem wgo_skip : ∀ (xs cur s : List UInt8), (∀ c ∈ xs, blk c = false) → wgo cur (xs ++ s) = wgo (cur ++ xs) s
  | [], cur, s, _ => by simp
  | c :: xs, cur, s, h => by
    rw [List.cons_append, wgo, if_neg (by rw [h c (by simp)]; decide), wgo_skip xs _ s (fun d hd => h d (by simp [hd]))]
    simp
def spB (x : Nat) : Bool := decide (x = 32) || decide (x = 9)
theorem dec_hi (n b0 b1 b2 b3 : Nat) (hn : 0 < n) (h : 128 ≤ b0) : 128 ≤ (Lib.decodeN n b0 b1 b2 b3).1 ∧ (Lib.decodeN n b0 b1 b2 b3).2 ≤ n ∧ (Lib.decodeN n b0 b1 b2 b3).2 ≤ 4 ∧
    (2 ≤ (Lib.decodeN n b0 b1 b2 b3).2 → 128 ≤ b1) ∧ (3 ≤ (Lib.decodeN n b0 b1 b2 b3).2 → 128 ≤ b2) ∧ (4 ≤ (Lib.decodeN n b0 b1 b2 b3).2 → 128 ≤ b3) := by
  unfold Lib.decodeN
  repeat' split
  all_goals (simp only; omega)
theorem blk_hi {c : UInt8} (h : 128 ≤ c.toNat) : blk c = false := by
  unfold blk
  rw [Bool.or_eq_false_iff]
  constructor <;> (apply decide_eq_false; rintro rfl; simp at h)
/-- A rune's bytes, none of them a blank. -/
theorem dec_take (s : ByteArray) (pos : Nat) (hp : pos < s.data.toList.length) (h : 128 ≤ (s.data.toList.getD pos 0).toNat) :
    spB (Utf8.decode s pos).1 = false ∧ 1 ≤ (Utf8.decode s pos).2 ∧ pos + (Utf8.decode s pos).2 ≤ s.data.toList.length ∧ ∀ c ∈ (s.data.toList.drop pos).take (Utf8.decode s pos).2, blk c = false := by
  have hw := Lib.width_pos s pos
  rw [Lib.decode_N] at hw ⊢
  obtain ⟨h1, h2, h3, h4, h5, h6⟩ := dec_hi (s.data.toList.length - pos) _ (s.data.toList.getD (pos + 1) 0).toNat (s.data.toList.getD (pos + 2) 0).toNat (s.data.toList.getD (pos + 3) 0).toNat (by omega) h
  refine ⟨?_, hw, by omega, fun c hc => ?_⟩
  · unfold spB
    rw [Bool.or_eq_false_iff]
    constructor <;> (apply decide_eq_false; omega)
  · obtain ⟨j, hj, e⟩ := List.getElem_of_mem hc
    rw [List.length_take, List.length_drop] at hj
    have e2 : c = s.data.toList.getD (pos + j) 0 := by
      rw [← e]; simp [List.getD, List.getElem?_eq_getElem (show pos + j < s.data.toList.length by omega)]
    rw [e2]
    apply blk_hi
    have hj4 : j = 0 ∨ j = 1 ∨ j = 2 ∨ j = 3 := by omega
    rcases hj4 with rfl | rfl | rfl | rfl
    · exact h
    · exact h4 (by omega)
    · exact h5 (by omega)
    · exact h6 (by omega)
theorem dec_lo (s : ByteArray) (pos : Nat) (h : ¬ 128 ≤ (s.data.toList.getD pos 0).toNat) : Utf8.decode s pos = ((s.data.toList.getD pos 0).toNat, 1) := by
  rw [Lib.decode_N]; unfold Lib.decodeN; rw [if_pos (by omega)]
def piece (L : List UInt8) (x : Nat × Nat) : List UInt8 := (L.take x.2).drop x.1
def curP (L : List UInt8) (st : Option Nat) (pos : Nat) : List UInt8 := match st with
  | none => []
  | some a => piece L (a, pos)
theorem piece_ne {L : List UInt8} {a b : Nat} (h : a < b) (hb : b ≤ L.length) : piece L (a, b) ≠ [] := by
  intro e
  have := congrArg List.length e
  simp [piece] at this; omega
theorem piece_add {L : List UInt8} {a pos w : Nat} (h : a ≤ pos) (hb : pos + w ≤ L.length) : piece L (a, pos + w) = piece L (a, pos) ++ (L.drop pos).take w := by
  unfold piece
  simp only [List.take_add]
  rw [List.drop_append_of_le_length (by simp; omega)]
theorem spB_blk (c : UInt8) : spB c.toNat = blk c := by
  unfold spB blk
  have e : ∀ k : UInt8, decide (c.toNat = k.toNat) = decide (c = k) := fun k => decide_eq_decide.2 ⟨fun h => UInt8.toNat_inj.1 h, fun h => by rw [h]⟩
  rw [← e 32, ← e 9]; rfl
theorem spans_words (s : ByteArray) : ∀ (f pos : Nat) (st : Option Nat) (acc : List (Nat × Nat)), s.data.toList.length - pos ≤ f → (∀ a, st = some a → a < pos) → pos ≤ s.data.toList.length →
    (Lib.closeSpans s (Lib.spansFromP spB s f pos st acc)).map (piece s.data.toList) = acc.map (piece s.data.toList) ++ wgo (curP s.data.toList st pos) (s.data.toList.drop pos) := by
  have hsz : s.size = s.data.toList.length := by rw [Array.length_toList]; rfl
  have hend : ∀ (pos : Nat) (st : Option Nat) (acc : List (Nat × Nat)), (∀ a, st = some a → a < pos) → pos = s.data.toList.length →
      (Lib.closeSpans s (acc, st)).map (piece s.data.toList) = acc.map (piece s.data.toList) ++ wgo (curP s.data.toList st pos) (s.data.toList.drop pos) := by
    intro pos st acc hst he
    rw [he, List.drop_length]
    cases st with
    | none => simp [Lib.closeSpans, curP, wgo]
    | some a =>
      have := hst a rfl
      have hne := piece_ne (L := s.data.toList) (a := a) (b := s.data.toList.length) (by omega) (Nat.le_refl _)
      simp only [Lib.closeSpans, curP, wgo, List.map_append, List.map_cons, List.map_nil, hsz, hne, if_false]
  intro f
  induction f with
  | zero =>
    intro pos st acc hf hst hp
    exact hend pos st acc hst (by omega)
  | succ f ih =>
    intro pos st acc hf hst hp
    unfold Lib.spansFromP
    by_cases hlt : pos < s.data.toList.length
    rotate_left
    · rw [if_neg (by omega)]; exact hend pos st acc hst (by omega)
    rw [if_pos (by omega)]
    have hd : s.data.toList.drop pos = s.data.toList.getD pos 0 :: s.data.toList.drop (pos + 1) := by
      rw [List.drop_eq_getElem_cons hlt, List.getD, List.getElem?_eq_getElem hlt]; rfl
    by_cases hb : spB (Utf8.decode s pos).1 = true
    · rw [if_pos hb]
      have hlo : ¬ 128 ≤ (s.data.toList.getD pos 0).toNat := fun h => by rw [(dec_take s pos hlt h).1] at hb; cases hb
      have e := dec_lo s pos hlo
      have hk : blk (s.data.toList.getD pos 0) = true := by rw [← spB_blk]; rw [e] at hb; exact hb
      rw [e, hd]
      cases st with
      | none =>
        simp only
        rw [ih (pos + 1) none acc (by omega) (fun a h => by cases h) (by omega)]
        simp only [curP]
        rw [wgo, if_pos hk, if_pos rfl]
      | some a =>
        simp only
        have ha := hst a rfl
        rw [ih (pos + 1) none _ (by omega) (fun a h => by cases h) (by omega)]
        simp only [curP]
        rw [wgo, if_pos hk, if_neg (piece_ne ha (by omega))]
        simp
    · rw [if_neg hb]
      have key : 1 ≤ (Utf8.decode s pos).2 ∧ pos + (Utf8.decode s pos).2 ≤ s.data.toList.length ∧ ∀ c ∈ (s.data.toList.drop pos).take (Utf8.decode s pos).2, blk c = false := by
        by_cases hlo : 128 ≤ (s.data.toList.getD pos 0).toNat
        · exact (dec_take s pos hlt hlo).2
        · have e := dec_lo s pos hlo
          rw [e] at hb ⊢
          refine ⟨Nat.le_refl _, by simp only; omega, fun c hc => ?_⟩
          rw [hd] at hc
          simp only [List.take_succ_cons, List.take_zero, List.mem_singleton] at hc
          rw [hc, ← spB_blk]; simpa using hb
      obtain ⟨k1, k2, k3⟩ := key
      generalize (Utf8.decode s pos).2 = w at k1 k2 k3
      have hsplit : s.data.toList.drop pos = (s.data.toList.drop pos).take w ++ s.data.toList.drop (pos + w) := by
        rw [← List.drop_drop, List.take_append_drop]
      cases st with
      | none =>
        simp only
        rw [ih (pos + w) (some pos) acc (by omega) (fun a h => by cases h; omega) k2]
        simp only [curP]
        rw [hsplit, wgo_skip _ _ _ k3, piece_add (Nat.le_refl _) k2]
        have e0 : piece s.data.toList (pos, pos) = [] := by simp [piece]
        rw [e0]
      | some a =>
        simp only
        have ha := hst a rfl
        rw [ih (pos + w) (some a) acc (by omega) (fun b h => by cases h; omega) k2]
        simp only [curP]
        rw [hsplit, wgo_skip _ _ _ k3, piece_add (by omega) k2]
theorem fields_words (s : List UInt8) : (Lib.goFieldsP spB ⟨s.toArray⟩).map (·.data.toList) = wgo [] s := by
  have h := spans_words ⟨s.toArray⟩ s.length 0 none [] (by simp) (fun a h => by cases h) (by omega)
  simp only [List.map_nil, List.nil_append, curP, List.drop_zero] at h
  unfold Lib.goFieldsP Lib.spansOfP
  rw [List.map_map]
  have hs : (⟨s.toArray⟩ : ByteArray).size = s.length := by simp [ByteArray.size]
  rw [hs]
  refine Eq.trans (List.map_congr_left fun x _ => ?_) h
  simp only [Function.comp, piece, ByteArray.data_extract, Array.toList_extract, List.drop_take]
theorem cut_of_no35 {s : List UInt8} (h : 35 ∉ s) : Lib.cut s [35] = (s, [], false) := by
  have : Lib.index s [35] = -1 := Lib.index_none fun j _ => by
    rw [← Bool.not_eq_true, occz]
    rintro ⟨g1, g2⟩
    rw [List.getD, List.getElem?_eq_getElem g1] at g2
    exact h (by rw [← g2]; exact List.getElem_mem g1)
  unfold Lib.cut
  rw [this, if_neg (by omega)]
theorem cut_of_35 {t r : List UInt8} (h : 35 ∉ t) : Lib.cut (t ++ 35 :: r) [35] = (t, r, true) := by
  have : Lib.index (t ++ 35 :: r) [35] = t.length := Lib.index_first (by simp) (occz.2 ⟨by simp, by simp [List.getD]⟩) fun j hj => by
    rw [← Bool.not_eq_true, occz]
    rintro ⟨_, g2⟩
    rw [List.getD, List.getElem?_append_left hj, List.getElem?_eq_getElem hj] at g2
    exact h (by rw [← g2]; exact List.getElem_mem hj)
  unfold Lib.cut
  rw [this, if_pos (by omega)]
  simp
theorem noHash_no : ∀ (s : List UInt8), 35 ∉ noHash s
  | [] => by simp [noHash]
  | c :: s => by
    unfold noHash
    rw [List.takeWhile_cons]
    split
    · rename_i h
      simp only [decide_eq_true_eq] at h
      rw [List.mem_cons, not_or]
      exact ⟨fun e => h e.symm, noHash_no s⟩
    · simp
theorem noHash_split : ∀ (s : List UInt8), s = noHash s ∨ ∃ r, s = noHash s ++ 35 :: r
  | [] => .inl rfl
  | c :: s => by
    unfold noHash
    rw [List.takeWhile_cons]
    split
    · rcases noHash_split s with e | ⟨r, e⟩
      · exact .inl (congrArg (c :: ·) e)
      · exact .inr ⟨r, congrArg (c :: ·) e⟩
    · rename_i h
      simp only [ne_eq, decide_not, Bool.not_eq_true', decide_eq_false_iff_not, Decidable.not_not] at h
      exact .inr ⟨s, by rw [h]; rfl⟩
theorem cut_hash (s : List UInt8) : (Lib.cut s [35]).1 = noHash s := by
  rcases noHash_split s with e | ⟨r, e⟩
  · have h := noHash_no s
    rw [← e] at h
    rw [cut_of_no35 h]; exact e
  · conv => lhs; rw [e]
    rw [cut_of_35 (noHash_no s)]
theorem noHash_len (s : List UInt8) : (noHash s).length ≤ s.length := (List.takeWhile_sublist _).length_le
theorem wgo_len : ∀ (s cur : List UInt8), (wgo cur s).length ≤ s.length + 1
  | [], cur => by rw [wgo]; split <;> simp
  | c :: s, cur => by
    rw [wgo]
    split
    · split
      · have := wgo_len s []; simp only [List.length_cons]; omega
      · have := wgo_len s []; simp only [List.length_cons]; omega
    · have := wgo_len s (cur ++ [c]); simp only [List.length_cons]; omega
theorem wgo_el : ∀ (s cur : List UInt8), ∀ w ∈ wgo cur s, w ≠ [] ∧ w.length ≤ cur.length + s.length
  | [], cur, w, h => by
    rw [wgo] at h
    split at h
    · cases h
    · simp at h; subst h; exact ⟨by assumption, by simp⟩
  | c :: s, cur, w, h => by
    rw [wgo] at h
    split at h
    · split at h
      · have := wgo_el s [] w h; simp only [List.length_cons, List.length_nil] at *; exact ⟨this.1, by omega⟩
      · rcases List.mem_cons.1 h with rfl | h
        · exact ⟨by assumption, by omega⟩
        · have := wgo_el s [] w h; simp only [List.length_cons, List.length_nil] at *; exact ⟨this.1, by omega⟩
    · have := wgo_el s (cur ++ [c]) w h; simp only [List.length_cons, List.length_append, List.length_nil] at *; exact ⟨this.1, by omega⟩
theorem words_el {s w : List UInt8} (h : w ∈ wordsL s) : w ≠ [] ∧ w.length ≤ s.length := by
  have h1 := wgo_el _ _ w h
  have h2 := noHash_len s
  exact ⟨h1.1, Nat.le_trans h1.2 (by simpa using h2)⟩
theorem words_len (s : List UInt8) : (wordsL s).length ≤ s.length + 1 := Nat.le_trans (wgo_len _ _) (by have := noHash_len s; omega)
end Go.Proofs.YtbjmcmgekcmbpabDoor

/- chapter 21: configurations: which may be, what a text tells -/
namespace Go.Proofs.YtbjmcmgekcmbpabDoor
set_option linter.all false
open Go.RowKit
set_option maxRecDepth 100000
structure Lim where
  g : Int
  b : Int
  n : Int
  deriving DecidableEq, Inhabited
abbrev Lim.cs (l : Lim) : List AV := [.int .i64 l.g, .int .i64 l.b, .int .i64 l.n]
structure PathC where
  ap : List UInt8
  ac : Int
  bp : List UInt8
  bc : Int
  o : Bool
  deriving DecidableEq, Inhabited
abbrev PathC.cs (p : PathC) : List AV := [.str p.ap, .int .i64 p.ac, .str p.bp, .int .i64 p.bc, .bool p.o]
structure RuleC where
  al : Bool
  pt : List UInt8
  deriving DecidableEq, Inhabited
abbrev RuleC.cs (r : RuleC) : List AV := [.bool r.al, .str r.pt]
structure Conf where
  a : List UInt8
  b : List UInt8
  la : Lim
  lb : Lim
  ps : List PathC
  rs : List RuleC
  iv : Int
  deriving DecidableEq, Inhabited
abbrev pths (l : List PathC) : List (List AV) := l.map fun p => p.cs
abbrev rls (l : List RuleC) : List (List AV) := l.map fun p => p.cs
theorem gdP {l : List PathC} {i : Nat} (h : i < l.length) : (pths l).getD i [] = (l.getD i default).cs := by simp [pths, h]
theorem gdR {l : List RuleC} {i : Nat} (h : i < l.length) : (rls l).getD i [] = (l.getD i default).cs := by simp [rls, h]
def Conf.zero (n : Int) : Conf := ⟨[], [], ⟨0, 0, 0⟩, ⟨0, 0, 0⟩, [], [], n⟩
def limQ (l : Lim) : Prop := (1 ≤ l.g ∧ l.g ≤ 1073741824) ∧ (1 ≤ l.b ∧ l.b ≤ 1073741824) ∧ (1 ≤ l.n ∧ l.n ≤ 1073741824)
instance (l : Lim) : Decidable (limQ l) := by unfold limQ; exact inferInstance
def meets (y x : PathC) : Bool := decide (y.ap = x.ap ∧ y.ac = x.ac) || decide (y.bp = x.bp ∧ y.bc = x.bc)
def apartP (x : PathC) (l : List PathC) : Bool := l.all fun y => !meets y x
abbrev cChain : List UInt8 := [99, 104, 97, 105, 110]
abbrev cGas : List UInt8 := [103, 97, 115]
abbrev cBytes : List UInt8 := [98, 121, 116, 101, 115]
abbrev cCount : List UInt8 := [99, 111, 117, 110, 116]
abbrev cPath : List UInt8 := [112, 97, 116, 104]
abbrev cOrd : List UInt8 := [111, 114, 100, 101, 114, 101, 100]
abbrev cUno : List UInt8 := [117, 110, 111, 114, 100, 101, 114, 101, 100]
abbrev cAllow : List UInt8 := [97, 108, 108, 111, 119]
abbrev cDeny : List UInt8 := [100, 101, 110, 121]
abbrev cIvl : List UInt8 := [105, 110, 116, 101, 114, 118, 97, 108]
structure PS where
  c : Conf
  ha : Bool
  hb : Bool
  hi : Bool
def limW (w : List (List UInt8)) : Lim := ⟨(numP (w.getD 4 [])).1, (numP (w.getD 6 [])).1, (numP (w.getD 8 [])).1⟩
def formC (w : List (List UInt8)) : Prop := w.length = 9 ∧ (w.getD 1 [] = [97] ∨ w.getD 1 [] = [98]) ∧ w.getD 3 [] = cGas ∧ w.getD 5 [] = cBytes ∧ w.getD 7 [] = cCount
instance (w : List (List UInt8)) : Decidable (formC w) := by unfold formC; exact inferInstance
def numsC (w : List (List UInt8)) : Prop := (numP (w.getD 4 [])).2 = 0 ∧ (numP (w.getD 6 [])).2 = 0 ∧ (numP (w.getD 8 [])).2 = 0
instance (w : List (List UInt8)) : Decidable (numsC w) := by unfold numsC; exact inferInstance
def twiceC (x : PS) (w : List (List UInt8)) : Bool :=
  if w.getD 1 [] = [97] then x.ha || (x.hb && decide (x.c.b = w.getD 2 [])) else x.hb || (x.ha && decide (x.c.a = w.getD 2 []))
noncomputable def chainQ (x : PS) (w : List (List UInt8)) : PS × Int :=
  if ¬ formC w then (x, 3) else if ¬ numsC w then (x, 3) else if nameP (w.getD 2 []) = false then (x, 6) else if ¬ limQ (limW w) then (x, 1) else if twiceC x w = true then (x, 8) else
    if w.getD 1 [] = [97] then (⟨⟨w.getD 2 [], x.c.b, limW w, x.c.lb, x.c.ps, x.c.rs, x.c.iv⟩, true, x.hb, x.hi⟩, 0)
    else (⟨⟨x.c.a, w.getD 2 [], x.c.la, limW w, x.c.ps, x.c.rs, x.c.iv⟩, x.ha, true, x.hi⟩, 0)
noncomputable def pthW (w : List (List UInt8)) : PathC := ⟨(parseP (w.getD 1 [])).1, (parseP (w.getD 1 [])).2.1, (parseP (w.getD 2 [])).1, (parseP (w.getD 2 [])).2.1, decide (w.getD 3 [] = cOrd)⟩
noncomputable def pathQ (x : PS) (w : List (List UInt8)) : PS × Int :=
  if ¬ (w.length = 4 ∧ (w.getD 3 [] = cOrd ∨ w.getD 3 [] = cUno)) then (x, 3) else
  if ¬ ((parseP (w.getD 1 [])).2.2 = 0 ∧ (parseP (w.getD 2 [])).2.2 = 0) then (x, 6) else
  if apartP (pthW w) x.c.ps = false then (x, 8) else if x.c.ps.length = 6 then (x, 22) else
  (⟨⟨x.c.a, x.c.b, x.c.la, x.c.lb, x.c.ps ++ [pthW w], x.c.rs, x.c.iv⟩, x.ha, x.hb, x.hi⟩, 0)
noncomputable def ruleQ (x : PS) (w : List (List UInt8)) : PS × Int :=
  if ¬ w.length = 2 then (x, 3) else if mayG (w.getD 1 []) = false then (x, 6) else if x.c.rs.length = 32 then (x, 22) else
  (⟨⟨x.c.a, x.c.b, x.c.la, x.c.lb, x.c.ps, x.c.rs ++ [⟨decide (w.getD 0 [] = cAllow), w.getD 1 []⟩], x.c.iv⟩, x.ha, x.hb, x.hi⟩, 0)
def everyQ (x : PS) (w : List (List UInt8)) : PS × Int :=
  if ¬ w.length = 2 then (x, 3) else if ¬ (numP (w.getD 1 [])).2 = 0 then (x, 3) else
  if ¬ (1 ≤ (numP (w.getD 1 [])).1 ∧ (numP (w.getD 1 [])).1 ≤ 1000000) then (x, 1) else if x.hi = true then (x, 8) else
  (⟨⟨x.c.a, x.c.b, x.c.la, x.c.lb, x.c.ps, x.c.rs, (numP (w.getD 1 [])).1⟩, x.ha, x.hb, true⟩, 0)
noncomputable def lineW (x : PS) (w : List (List UInt8)) : PS × Int :=
  if w.length = 0 then (x, 0) else if w.getD 0 [] = cChain then chainQ x w else if w.getD 0 [] = cPath then pathQ x w else
  if w.getD 0 [] = cAllow ∨ w.getD 0 [] = cDeny then ruleQ x w else if w.getD 0 [] = cIvl then everyQ x w else (x, 3)
noncomputable def lineQ (x : PS) (t : List UInt8) : PS × Int := if 120 < t.length then (x, 4) else lineW x (wordsL t)
noncomputable def goQ : PS → Nat → List (List UInt8) → Conf × Int × Int
  | x, _, [] => if x.ha = true ∧ x.hb = true then (x.c, 0, 0) else (Conf.zero 0, 0, 7)
  | x, i, t :: r => if (lineQ x t).2 = 0 then goQ (lineQ x t).1 (i + 1) r else (Conf.zero 0, (i : Int) + 1, (lineQ x t).2)
def PS.zero : PS := ⟨Conf.zero 1, false, false, false⟩
noncomputable def confP (s : List UInt8) : Conf × Int × Int := goQ PS.zero 0 (spx 10 s)
/-! lines -/
def linesD (s : List UInt8) : List (List UInt8) := if (spx 10 s).getLastD [] = [] then (spx 10 s).dropLast else spx 10 s
theorem linesD_out {s : List UInt8} {out : List (List UInt8)} {t : List UInt8} (h : spx 10 s = out ++ [t]) : linesD s = if t = [] then out else out ++ [t] := by
  unfold linesD
  rw [h]
  simp
theorem lineQ_nil (x : PS) : lineQ x [] = (x, 0) := by
  simp [lineQ, lineW, wordsL, noHash, wgo]
theorem goQ_nil : ∀ (l : List (List UInt8)) (x : PS) (i : Nat), goQ x i (l ++ [[]]) = goQ x i l
  | [], x, i => by simp [goQ, lineQ_nil]
  | t :: l, x, i => by
    rw [List.cons_append, goQ, goQ]
    split
    · exact goQ_nil l _ _
    · rfl
theorem spx_last (z : UInt8) (s : List UInt8) : ∃ out t, spx z s = out ++ [t] := by
  have h := spx_ne z s
  exact ⟨(spx z s).dropLast, (spx z s).getLast h, (List.dropLast_concat_getLast h).symm⟩
theorem confP_lines (s : List UInt8) : confP s = goQ PS.zero 0 (linesD s) := by
  obtain ⟨out, t, h⟩ := spx_last 10 s
  unfold confP
  rw [linesD_out h, h]
  split
  · rename_i e; rw [e, goQ_nil]
  · rfl
/-! what may be -/
noncomputable def pathMay (p : PathC) : Bool := mayP p.ap p.ac && mayP p.bp p.bc
def pathsQ (l : List PathC) : Prop := ∀ i, i < l.length → pathMay (l.getD i default) = true ∧ apartP (l.getD i default) (l.take i) = true
def rulesQ (l : List RuleC) : Prop := ∀ i, i < l.length → mayG (l.getD i default).pt = true
def ivQ (n : Int) : Prop := 1 ≤ n ∧ n ≤ 1000000
def confQ (c : Conf) : Prop := nameP c.a = true ∧ nameP c.b = true ∧ c.a ≠ c.b ∧ limQ c.la ∧ limQ c.lb ∧ ivQ c.iv ∧ c.ps.length ≤ 6 ∧ c.rs.length ≤ 32 ∧ pathsQ c.ps ∧ rulesQ c.rs
open Classical in
noncomputable def confMay (c : Conf) : Bool := decide (confQ c)
theorem confMay_t {c : Conf} (h : confQ c) : confMay c = true := by simp [confMay, h]
theorem confMay_f {c : Conf} (h : ¬ confQ c) : confMay c = false := by simp [confMay, h]
/-! a text that is taken tells what may be -/
structure PSok (x : PS) : Prop where
  a : x.ha = true → nameP x.c.a = true ∧ limQ x.c.la
  b : x.hb = true → nameP x.c.b = true ∧ limQ x.c.lb
  ab : x.ha = true → x.hb = true → x.c.a ≠ x.c.b
  iv : ivQ x.c.iv
  pl : x.c.ps.length ≤ 6
  rl : x.c.rs.length ≤ 32
  ps : pathsQ x.c.ps
  rs : rulesQ x.c.rs
theorem getD_snoc {α : Type} [Inhabited α] (l : List α) (a : α) (i : Nat) : (l ++ [a]).getD i default = if i < l.length then l.getD i default else if i = l.length then a else default := by
  by_cases h : i < l.length
  · rw [if_pos h]; simp [List.getD, List.getElem?_append_left h]
  · rw [if_neg h]
    by_cases e : i = l.length
    · subst e; simp [List.getD]
    · rw [if_neg e, List.getD, List.getElem?_eq_none (by simp; omega)]; rfl
theorem pathsQ_snoc {l : List PathC} {p : PathC} (h : pathsQ l) (h1 : pathMay p = true) (h2 : apartP p l = true) : pathsQ (l ++ [p]) := fun i hi => by
  rw [getD_snoc]
  by_cases e : i < l.length
  · rw [if_pos e, List.take_append_of_le_length (by omega)]; exact h i e
  · have e2 : i = l.length := by simp at hi; omega
    rw [if_neg e, if_pos e2]
    subst e2
    simp [h1, h2]
theorem rulesQ_snoc {l : List RuleC} {p : RuleC} (h : rulesQ l) (h1 : mayG p.pt = true) : rulesQ (l ++ [p]) := fun i hi => by
  rw [getD_snoc]
  by_cases e : i < l.length
  · rw [if_pos e]; exact h i e
  · have e2 : i = l.length := by simp at hi; omega
    rw [if_neg e, if_pos e2]; exact h1
theorem parseP_may {s : List UInt8} (h : (parseP s).2.2 = 0) : mayP (parseP s).1 (parseP s).2.1 = true := by
  unfold parseP at *
  split at h
  · rename_i g
    rw [if_pos g]
    simp only [endP, Bool.and_eq_true] at g
    exact g.2
  · simp at h
theorem ps_zero : PSok PS.zero := ⟨by simp [PS.zero], by simp [PS.zero], by simp [PS.zero], by simp [PS.zero, Conf.zero, ivQ], by simp [PS.zero, Conf.zero], by simp [PS.zero, Conf.zero], by simp [PS.zero, Conf.zero, pathsQ], by simp [PS.zero, Conf.zero, rulesQ]⟩
theorem chainQ_ok {x : PS} {w : List (List UInt8)} (h : PSok x) (he : (chainQ x w).2 = 0) : PSok (chainQ x w).1 := by
  unfold chainQ at *
  split
  · simp_all
  split
  · simp_all
  split
  · simp_all
  split
  · simp_all
  split
  · simp_all
  rename_i h1 h2 h3 h4 h5
  have hn : nameP (w.getD 2 []) = true := by simpa using h3
  have hl : limQ (limW w) := Decidable.not_not.1 h4
  simp only [twiceC, Bool.not_eq_true] at h5
  split
  · rename_i h6
    rw [if_pos h6, Bool.or_eq_false_iff, Bool.and_eq_false_iff] at h5
    refine ⟨fun _ => ⟨hn, hl⟩, h.b, fun _ hb e => ?_, h.iv, h.pl, h.rl, h.ps, h.rs⟩
    rcases h5.2 with g | g
    · rw [show x.hb = true from hb] at g; cases g
    · exact (of_decide_eq_false g) e.symm
  · rename_i h6
    rw [if_neg h6, Bool.or_eq_false_iff, Bool.and_eq_false_iff] at h5
    refine ⟨h.a, fun _ => ⟨hn, hl⟩, fun ha _ e => ?_, h.iv, h.pl, h.rl, h.ps, h.rs⟩
    rcases h5.2 with g | g
    · rw [show x.ha = true from ha] at g; cases g
    · exact (of_decide_eq_false g) e
theorem pathQ_ok {x : PS} {w : List (List UInt8)} (h : PSok x) (he : (pathQ x w).2 = 0) : PSok (pathQ x w).1 := by
  unfold pathQ at *
  split
  · simp_all
  split
  · simp_all
  split
  · simp_all
  split
  · simp_all
  rename_i h1 h2 h3 h4
  have h2' := Decidable.not_not.1 h2
  refine ⟨h.a, h.b, h.ab, h.iv, ?_, h.rl, pathsQ_snoc h.ps ?_ (by simpa using h3), h.rs⟩
  · have := h.pl; simp; omega
  · simp only [pathMay, pthW, parseP_may h2'.1, parseP_may h2'.2, Bool.and_self]
theorem ruleQ_ok {x : PS} {w : List (List UInt8)} (h : PSok x) (he : (ruleQ x w).2 = 0) : PSok (ruleQ x w).1 := by
  unfold ruleQ at *
  split
  · simp_all
  split
  · simp_all
  split
  · simp_all
  rename_i h1 h2 h3
  refine ⟨h.a, h.b, h.ab, h.iv, h.pl, ?_, h.ps, rulesQ_snoc h.rs (by simpa using h2)⟩
  have := h.rl; simp; omega
theorem everyQ_ok {x : PS} {w : List (List UInt8)} (h : PSok x) (he : (everyQ x w).2 = 0) : PSok (everyQ x w).1 := by
  unfold everyQ at *
  split
  · simp_all
  split
  · simp_all
  split
  · simp_all
  split
  · simp_all
  rename_i h1 h2 h3 h4
  have h3' := Decidable.not_not.1 h3
  exact ⟨h.a, h.b, h.ab, h3', h.pl, h.rl, h.ps, h.rs⟩
theorem lineW_ok {x : PS} {w : List (List UInt8)} (h : PSok x) (he : (lineW x w).2 = 0) : PSok (lineW x w).1 := by
  unfold lineW at *
  split
  · exact h
  · rename_i g
    rw [if_neg g] at he
    split
    · rename_i g; rw [if_pos g] at he; exact chainQ_ok h he
    rename_i g
    rw [if_neg g] at he
    split
    · rename_i g; rw [if_pos g] at he; exact pathQ_ok h he
    rename_i g
    rw [if_neg g] at he
    split
    · rename_i g; rw [if_pos g] at he; exact ruleQ_ok h he
    rename_i g
    rw [if_neg g] at he
    split
    · rename_i g; rw [if_pos g] at he; exact everyQ_ok h he
    · exact h
theorem lineQ_ok {x : PS} {t : List UInt8} (h : PSok x) (he : (lineQ x t).2 = 0) : PSok (lineQ x t).1 := by
  unfold lineQ at *
  split
  · exact h
  · rename_i g
    rw [if_neg g] at he
    exact lineW_ok h he
theorem goQ_may : ∀ (l : List (List UInt8)) (x : PS) (i : Nat), PSok x → (goQ x i l).2.2 = 0 → confQ (goQ x i l).1
  | [], x, i, h, he => by
    rw [goQ] at he ⊢
    split
    · rename_i g
      exact ⟨(h.a g.1).1, (h.b g.2).1, h.ab g.1 g.2, (h.a g.1).2, (h.b g.2).2, h.iv, h.pl, h.rl, h.ps, h.rs⟩
    · rename_i g; rw [if_neg g] at he; simp at he
  | t :: l, x, i, h, he => by
    rw [goQ] at he ⊢
    split
    · rename_i g
      rw [if_pos g] at he
      exact goQ_may l _ _ (lineQ_ok h g) he
    · rename_i g; rw [if_neg g] at he; exact absurd he g
theorem confP_may {s : List UInt8} (h : (confP s).2.2 = 0) : confQ (confP s).1 := goQ_may _ _ _ ps_zero h
end Go.Proofs.YtbjmcmgekcmbpabDoor

/- chapter 21: the program's smaller functions; strings.FieldsFunc at blanks -/
namespace Go.Proofs.YtbjmcmgekcmbpabDoor
set_option linter.all false
open Go.RowKit
set_option maxRecDepth 100000
section
open Go.Shelf Go.Lib
theorem blank_at (w : World) : PredAt Tryd.prog 41 #[] encR spB w := fun W r _ => by
  unfold FnGives
  by_cases h1 : r = 32 <;> by_cases h2 : r = 9
  all_goals
    have z1 : (r : Int) = 32 ↔ r = 32 := by omega
    have z2 : (r : Int) = 9 ↔ r = 9 := by omega
    go_enter Tryd.func41, Tryd.ntmps41
    go_wp2
    all_goals first | (exfalso; omega) | (go_ret; exact ⟨by simp [spB, h1, h2, z1, z2], 0, rfl⟩)
end
theorem p_Fields (s : List UInt8) (hs : s.length ≤ 1000000) : CP Tryd.prog 40 [.str s, .fn 41] (.sl none 1 (strs (wgo [] s))) := by
  intro W U us hG hl hu
  have he : us = [.string ⟨s.toArray⟩, .func (.func 41) #[] #[]] := by
    match us, hl with
    | [a, b], _ =>
      have h1 := (hu 0 a _ rfl rfl).str_inv
      have h2 := hu 1 b _ rfl rfl
      rw [h1]
      cases h2
      rfl
  subst he
  refine (Tryd.strings_FieldsFunc_runes 41 #[] (enters_of Tryd.func41 (by kernel_rfl) rfl) spB ⟨s.toArray⟩ W (by rw [sz_str]; omega) (blank_at W).runes).mono ?_
  rintro e W' ⟨A, rfl, hA, hown, hb⟩
  have hp := fields_words s
  have hlen := wgo_len s []
  rw [← hp] at hlen
  rw [← hp]
  generalize Lib.goFieldsP spB ⟨s.toArray⟩ = B at hown hlen
  refine ⟨_, fun k o => if k < W.heap.size then U k o else False, rfl, ?_, trivial, ⟨hb, fun k hk o => by simp [hk]⟩⟩
  have hle : B.length = (strs (B.map (·.data.toList))).length := by simp
  rw [hle]
  refine .sl _ _ none _ A 0 1 (fun i _ => (B.map Value.string).getD i undef) (Nat.le_refl _) ?_ (fun _ => rfl) (fun e he => ?_) (fun i j hi hj => ?_) (fun i e j x he hx => ?_)
  · rw [← hle]; simp only [List.length_map] at hlen; unfold maxLen; omega
  · simp only [List.map_map, List.mem_map, Function.comp] at he
    obtain ⟨a, _, rfl⟩ := he
    rfl
  · have hi' : i < B.length := by simpa using hi
    obtain rfl : j = 0 := by omega
    refine ⟨?_, ?_, by simp; omega⟩
    · have := World.ownsRow.cellAt hown i (by omega)
      have e2 : 0 + i * 1 + 0 = i := by omega
      rw [e2, this]
      simp [hi']
    · simp [hi', Value.oneCell']
  · simp only [List.map_map, List.getElem?_map, Option.map_eq_some_iff, Function.comp] at he
    obtain ⟨a, ha, rfl⟩ := he
    cases j with
    | zero =>
      simp only [List.getElem?_cons_zero, Option.some.injEq] at hx
      subst hx
      have : (B.map Value.string).getD i undef = .string a := by simp [ha]
      show VR _ _ ((B.map Value.string).getD i undef) _
      rw [this]
      exact .str _
    | succ j => simp at hx
theorem p_limited (l : Lim) : CP Tryd.prog 20 [.agg l.cs] (.bool (decide (limQ l))) := by
  refine ok_conf_limited _ _ (by simp) ?_
  obtain ⟨lg, lb, ln⟩ := l
  simp only [c_conf_limited, ↓Ed, Eu, ↓reduceIte, reduceCtorEq, Nat.reduceAdd, Nat.reduceEqDiff, Nat.reduceLT, Nat.reduceLeDiff, Int.reduceToNat, Int.reduceEq, Int.reduceLT, Int.reduceLE, w64, List.length_append, List.length_map, Nat.mul_one, beq_self_eq_true, Lim.cs, PathC.cs, RuleC.cs, gdP, gdR]
  repeat' ((first | refine NewB_intro0 (fun b => ?_) | (refine NewB_intro (fun b hb => ?_); simp only [ln_cons2, ln_nil, and_true] at hb) | (with_reducible apply And.intro; (focus (first | omega | (simp only [Fact, Bool.not_eq_true', Bool.not_eq_false', decide_eq_true_eq, decide_eq_false_iff_not] at *; omega)))) | ((first | refine gW_sp ?_ | refine condW_sp ?_ | refine pickW_sp ?_); (try refine Sp_n ?_); (first | refine Sp_t (by assumption) ?_ | refine Sp_f (by assumption) ?_ | refine Sp_split (fun h => ?_) (fun h => ?_)) <;> (first | have h' := Fact_lt h | have h' := Fact_nlt h | have h' := Fact_le h | have h' := Fact_nle h | skip) <;> (try (exfalso; omega))) | refine TreeW_intro (by rfl) ?_ | refine TreeW_all ?_ | refine upQ_intro ?_ | refine Two_intro ?_ ?_ | (refine leK_lit ?_; (simp [-List.getD_eq_getElem?_getD, LeL, lk, *]; done)) | (refine leK_dd ?_; (simp [-List.getD_eq_getElem?_getD, LeS, LeL, lk, *]; done)) | (simp only [Fact, Bool.not_eq_true', Bool.not_eq_false', decide_eq_true_eq, decide_eq_false_iff_not] at *; refine leK_dd ?_; (simp [-List.getD_eq_getElem?_getD, LeS, LeL, lk, *]; done)) | (show (_ : Nat) ≤ _; omega)) <;> (try simp (disch := omega) only [*, ↓Ed, Eu, ↓reduceIte, reduceCtorEq, Nat.reduceAdd, Nat.reduceEqDiff, Nat.reduceLT, Nat.reduceLeDiff, Int.reduceToNat, Int.reduceEq, Int.reduceLT, Int.reduceLE, w64, List.length_append, List.length_map, Nat.mul_one, beq_self_eq_true, Lim.cs, PathC.cs, RuleC.cs, gdP, gdR]))
  rename Nat => p
  refine wpx_loop (fun k : Nat => ⟨lk [(1, .ptr p 0), (11, .agg [.int .i64 lg, .int .i64 lb, .int .i64 ln]), (12, .int .i64 (k : Int))], lk [(p, [.int .i64 lg, .int .i64 lb, .int .i64 ln])]⟩) (fun k => k ≤ 3 ∧ Fact ((0 < k → 1 ≤ lg ∧ lg ≤ 1073741824) ∧ (1 < k → 1 ≤ lb ∧ lb ≤ 1073741824) ∧ (2 < k → 1 ≤ ln ∧ ln ≤ 1073741824))) (fun k => 3 - k) 0 ⟨by omega, by simp [Fact]⟩ (Le_lit (by simp [LeL, lk])) ?_
  rintro k ⟨h0, h1⟩
  have hk : k = 0 ∨ k = 1 ∨ k = 2 ∨ k = 3 := by omega
  rcases hk with rfl | rfl | rfl | rfl
  all_goals simp (disch := omega) only [↓Ed, Eu, ↓reduceIte, reduceCtorEq, Nat.reduceAdd, Nat.reduceEqDiff, Nat.reduceLT, Nat.reduceLeDiff, Int.reduceToNat, Int.reduceEq, Int.reduceLT, Int.reduceLE, w64, List.length_append, List.length_map, Nat.mul_one, beq_self_eq_true, Lim.cs, PathC.cs, RuleC.cs, gdP, gdR]
  all_goals repeat' ((first | refine NewB_intro0 (fun b => ?_) | (refine NewB_intro (fun b hb => ?_); simp only [ln_cons2, ln_nil, and_true] at hb) | (with_reducible apply And.intro; (focus (first | omega | (simp only [Fact, Bool.not_eq_true', Bool.not_eq_false', decide_eq_true_eq, decide_eq_false_iff_not] at *; omega)))) | ((first | refine gW_sp ?_ | refine condW_sp ?_ | refine pickW_sp ?_); (try refine Sp_n ?_); (first | refine Sp_t (by assumption) ?_ | refine Sp_f (by assumption) ?_ | refine Sp_split (fun h => ?_) (fun h => ?_)) <;> (first | have h' := Fact_lt h | have h' := Fact_nlt h | have h' := Fact_le h | have h' := Fact_nle h | skip) <;> (try (exfalso; omega))) | refine TreeW_intro (by rfl) ?_ | refine TreeW_all ?_ | refine upQ_intro ?_ | refine Two_intro ?_ ?_ | (refine leK_lit ?_; (simp [-List.getD_eq_getElem?_getD, LeL, lk, *]; done)) | (refine leK_dd ?_; (simp [-List.getD_eq_getElem?_getD, LeS, LeL, lk, *]; done)) | (simp only [Fact, Bool.not_eq_true', Bool.not_eq_false', decide_eq_true_eq, decide_eq_false_iff_not] at *; refine leK_dd ?_; (simp [-List.getD_eq_getElem?_getD, LeS, LeL, lk, *]; done)) | (show (_ : Nat) ≤ _; omega)) <;> (try simp (disch := omega) only [*, ↓Ed, Eu, ↓reduceIte, reduceCtorEq, Nat.reduceAdd, Nat.reduceEqDiff, Nat.reduceLT, Nat.reduceLeDiff, Int.reduceToNat, Int.reduceEq, Int.reduceLT, Int.reduceLE, w64, List.length_append, List.length_map, Nat.mul_one, beq_self_eq_true, Lim.cs, PathC.cs, RuleC.cs, gdP, gdR]))
  all_goals simp only [Fact, Bool.not_eq_true', Bool.not_eq_false', decide_eq_true_eq, decide_eq_false_iff_not] at *
  case inl.refine_1.right.refine_2.refine_2 => exact Round_lit 1 ⟨Le_lit (by simp [LeL, lk]), ⟨by omega, by simp, by simp, by simp⟩, by omega⟩
  case inr.inl.refine_1.right.refine_2.refine_2 => exact Round_lit 2 ⟨Le_lit (by simp [LeL, lk]), ⟨by omega, fun _ => h1.1 (by omega), by simp, by simp⟩, by omega⟩
  case inr.inr.inl.refine_1.right.refine_2.refine_2 => exact Round_lit 3 ⟨Le_lit (by simp [LeL, lk]), ⟨by omega, fun _ => h1.1 (by omega), fun _ => h1.2.1 (by omega), by simp⟩, by omega⟩
  all_goals first
    | (symm; rw [decide_eq_false_iff_not]; simp only [limQ]; omega)
    | (symm; rw [decide_eq_true_eq]; simp only [limQ]; omega)
theorem p_spaced (n : Int) : CP Tryd.prog 21 [.int .i64 n] (.bool (decide (1 ≤ n ∧ n ≤ 1000000))) := by
  refine ok_conf_spaced _ _ (by simp) ?_
  simp only [c_conf_spaced, ↓Ed, Eu, ↓reduceIte, reduceCtorEq, Nat.reduceAdd, Nat.reduceEqDiff, Nat.reduceLT, Nat.reduceLeDiff, Int.reduceToNat, Int.reduceEq, Int.reduceLT, Int.reduceLE, w64, List.length_append, List.length_map, Nat.mul_one, beq_self_eq_true, Lim.cs, PathC.cs, RuleC.cs, gdP, gdR]
  repeat' ((first | refine NewB_intro0 (fun b => ?_) | (refine NewB_intro (fun b hb => ?_); simp only [ln_cons2, ln_nil, and_true] at hb) | (with_reducible apply And.intro; (focus (first | omega | (simp only [Fact, Bool.not_eq_true', Bool.not_eq_false', decide_eq_true_eq, decide_eq_false_iff_not] at *; omega)))) | ((first | refine gW_sp ?_ | refine condW_sp ?_ | refine pickW_sp ?_); (try refine Sp_n ?_); (first | refine Sp_t (by assumption) ?_ | refine Sp_f (by assumption) ?_ | refine Sp_split (fun h => ?_) (fun h => ?_)) <;> (first | have h' := Fact_lt h | have h' := Fact_nlt h | have h' := Fact_le h | have h' := Fact_nle h | skip) <;> (try (exfalso; omega))) | refine TreeW_intro (by rfl) ?_ | refine TreeW_all ?_ | refine upQ_intro ?_ | refine Two_intro ?_ ?_ | (refine leK_lit ?_; (simp [-List.getD_eq_getElem?_getD, LeL, lk, *]; done)) | (refine leK_dd ?_; (simp [-List.getD_eq_getElem?_getD, LeS, LeL, lk, *]; done)) | (simp only [Fact, Bool.not_eq_true', Bool.not_eq_false', decide_eq_true_eq, decide_eq_false_iff_not] at *; refine leK_dd ?_; (simp [-List.getD_eq_getElem?_getD, LeS, LeL, lk, *]; done)) | (show (_ : Nat) ≤ _; omega)) <;> (try simp (disch := omega) only [*, ↓Ed, Eu, ↓reduceIte, reduceCtorEq, Nat.reduceAdd, Nat.reduceEqDiff, Nat.reduceLT, Nat.reduceLeDiff, Int.reduceToNat, Int.reduceEq, Int.reduceLT, Int.reduceLE, w64, List.length_append, List.length_map, Nat.mul_one, beq_self_eq_true, Lim.cs, PathC.cs, RuleC.cs, gdP, gdR]))
  all_goals simp only [Fact, Bool.not_eq_true', Bool.not_eq_false', decide_eq_true_eq, decide_eq_false_iff_not] at *
  all_goals first
    | (symm; rw [decide_eq_false_iff_not]; omega)
    | (symm; rw [decide_eq_true_eq]; omega)
    | (rw [Bool.eq_iff_iff]; simp only [decide_eq_true_eq]; omega)
theorem p_number (s : List UInt8) (hs : s.length ≤ 16000000) : CP Tryd.prog 49 [.str s] (.tup [.int .i64 (numP s).1, .bool (decide ((numP s).2 = 0))]) := by
  refine ok_conf_number _ _ (by simp) ?_
  simp only [c_conf_number, ↓Ed, Eu, ↓reduceIte, reduceCtorEq, Nat.reduceAdd, Nat.reduceEqDiff, Nat.reduceLT, Nat.reduceLeDiff, Int.reduceToNat, Int.reduceEq, Int.reduceLT, Int.reduceLE, w64, List.length_append, List.length_map, Nat.mul_one, beq_self_eq_true, Lim.cs, PathC.cs, RuleC.cs, gdP, gdR]
  repeat' ((first | refine CallO_pure (p_Number _ (by omega)) ?_ | refine NewB_intro0 (fun b => ?_) | (refine NewB_intro (fun b hb => ?_); simp only [ln_cons2, ln_nil, and_true] at hb) | (with_reducible apply And.intro; (focus (first | omega | (simp only [Fact, Bool.not_eq_true', Bool.not_eq_false', decide_eq_true_eq, decide_eq_false_iff_not] at *; omega)))) | ((first | refine gW_sp ?_ | refine condW_sp ?_ | refine pickW_sp ?_); (try refine Sp_n ?_); (first | refine Sp_t (by assumption) ?_ | refine Sp_f (by assumption) ?_ | refine Sp_split (fun h => ?_) (fun h => ?_)) <;> (first | have h' := Fact_lt h | have h' := Fact_nlt h | have h' := Fact_le h | have h' := Fact_nle h | skip) <;> (try (exfalso; omega))) | refine TreeW_intro (by rfl) ?_ | refine TreeW_all ?_ | refine upQ_intro ?_ | refine Two_intro ?_ ?_ | (refine leK_lit ?_; (simp [-List.getD_eq_getElem?_getD, LeL, lk, *]; done)) | (refine leK_dd ?_; (simp [-List.getD_eq_getElem?_getD, LeS, LeL, lk, *]; done)) | (simp only [Fact, Bool.not_eq_true', Bool.not_eq_false', decide_eq_true_eq, decide_eq_false_iff_not] at *; refine leK_dd ?_; (simp [-List.getD_eq_getElem?_getD, LeS, LeL, lk, *]; done)) | (show (_ : Nat) ≤ _; omega)) <;> (try simp (disch := omega) only [*, ↓Ed, Eu, ↓reduceIte, reduceCtorEq, Nat.reduceAdd, Nat.reduceEqDiff, Nat.reduceLT, Nat.reduceLeDiff, Int.reduceToNat, Int.reduceEq, Int.reduceLT, Int.reduceLE, w64, List.length_append, List.length_map, Nat.mul_one, beq_self_eq_true, Lim.cs, PathC.cs, RuleC.cs, gdP, gdR]))
theorem p_words (s : List UInt8) (hs : s.length ≤ 1000000) : CP Tryd.prog 27 [.str s] (.sl none 1 (strs (wordsL s))) := by
  have h1 := p_Cut s [35] hs
  rw [cut_hash] at h1
  have h2 := p_Fields (noHash s) (Nat.le_trans (noHash_len s) hs)
  refine ok_conf_words _ _ (by simp) ?_
  simp only [c_conf_words, ↓Ed, Eu, ↓reduceIte, reduceCtorEq, Nat.reduceAdd, Nat.reduceEqDiff, Nat.reduceLT, Nat.reduceLeDiff, Int.reduceToNat, Int.reduceEq, Int.reduceLT, Int.reduceLE, w64, List.length_append, List.length_map, Nat.mul_one, beq_self_eq_true, Lim.cs, PathC.cs, RuleC.cs, gdP, gdR]
  repeat' ((first | refine CallO_pure (h1) ?_ | refine CallO_pure (h2) ?_ | refine NewB_intro0 (fun b => ?_) | (refine NewB_intro (fun b hb => ?_); simp only [ln_cons2, ln_nil, and_true] at hb) | (with_reducible apply And.intro; (focus (first | omega | (simp only [Fact, Bool.not_eq_true', Bool.not_eq_false', decide_eq_true_eq, decide_eq_false_iff_not] at *; omega)))) | ((first | refine gW_sp ?_ | refine condW_sp ?_ | refine pickW_sp ?_); (try refine Sp_n ?_); (first | refine Sp_t (by assumption) ?_ | refine Sp_f (by assumption) ?_ | refine Sp_split (fun h => ?_) (fun h => ?_)) <;> (first | have h' := Fact_lt h | have h' := Fact_nlt h | have h' := Fact_le h | have h' := Fact_nle h | skip) <;> (try (exfalso; omega))) | refine TreeW_intro (by rfl) ?_ | refine TreeW_all ?_ | refine upQ_intro ?_ | refine Two_intro ?_ ?_ | (refine leK_lit ?_; (simp [-List.getD_eq_getElem?_getD, LeL, lk, *]; done)) | (refine leK_dd ?_; (simp [-List.getD_eq_getElem?_getD, LeS, LeL, lk, *]; done)) | (simp only [Fact, Bool.not_eq_true', Bool.not_eq_false', decide_eq_true_eq, decide_eq_false_iff_not] at *; refine leK_dd ?_; (simp [-List.getD_eq_getElem?_getD, LeS, LeL, lk, *]; done)) | (show (_ : Nat) ≤ _; omega)) <;> (try simp (disch := omega) only [*, ↓Ed, Eu, ↓reduceIte, reduceCtorEq, Nat.reduceAdd, Nat.reduceEqDiff, Nat.reduceLT, Nat.reduceLeDiff, Int.reduceToNat, Int.reduceEq, Int.reduceLT, Int.reduceLE, w64, List.length_append, List.length_map, Nat.mul_one, beq_self_eq_true, Lim.cs, PathC.cs, RuleC.cs, gdP, gdR]))
  rfl
theorem apart_take {x : PathC} {l : List PathC} {k : Nat} (h : k < l.length) : apartP x (l.take (k + 1)) = (apartP x (l.take k) && !meets (l.getD k default) x) := by
  unfold apartP
  rw [List.take_succ_eq_append_getElem h, List.all_append]
  simp [List.getD, List.getElem?_eq_getElem h]
theorem apart_bad {x : PathC} {l : List PathC} {k : Nat} (h : k < l.length) (hm : meets (l.getD k default) x = true) : apartP x l = false := by
  unfold apartP
  rw [List.all_eq_false]
  refine ⟨l.getD k default, ?_, by rw [hm]; decide⟩
  rw [List.getD, List.getElem?_eq_getElem h]; exact List.getElem_mem h
theorem p_apart (x : PathC) (own : Option Nat) (l : List PathC) (hl : l.length ≤ maxLen) : CP Tryd.prog 23 [.agg x.cs, .sl own 5 (pths l)] (.bool (apartP x l)) := by
  have hm : maxLen = 9223372036854775807 := rfl
  refine ok_conf_apart _ _ (by simp) ?_
  obtain ⟨ap, ac, bp, bc, o⟩ := x
  simp only [c_conf_apart, ↓Ed, Eu, ↓reduceIte, reduceCtorEq, Nat.reduceAdd, Nat.reduceEqDiff, Nat.reduceLT, Nat.reduceLeDiff, Int.reduceToNat, Int.reduceEq, Int.reduceLT, Int.reduceLE, w64, List.length_append, List.length_map, Nat.mul_one, beq_self_eq_true, Lim.cs, PathC.cs, RuleC.cs, gdP, gdR]
  repeat' ((first | refine NewB_intro0 (fun b => ?_) | (refine NewB_intro (fun b hb => ?_); simp only [ln_cons2, ln_nil, and_true] at hb) | (with_reducible apply And.intro; (focus (first | omega | (simp only [Fact, Bool.not_eq_true', Bool.not_eq_false', decide_eq_true_eq, decide_eq_false_iff_not] at *; omega)))) | ((first | refine gW_sp ?_ | refine condW_sp ?_ | refine pickW_sp ?_); (try refine Sp_n ?_); (first | refine Sp_t (by assumption) ?_ | refine Sp_f (by assumption) ?_ | refine Sp_split (fun h => ?_) (fun h => ?_)) <;> (first | have h' := Fact_lt h | have h' := Fact_nlt h | have h' := Fact_le h | have h' := Fact_nle h | skip) <;> (try (exfalso; omega))) | refine TreeW_intro (by rfl) ?_ | refine TreeW_all ?_ | refine upQ_intro ?_ | refine Two_intro ?_ ?_ | (refine leK_lit ?_; (simp [-List.getD_eq_getElem?_getD, LeL, lk, *]; done)) | (refine leK_dd ?_; (simp [-List.getD_eq_getElem?_getD, LeS, LeL, lk, *]; done)) | (simp only [Fact, Bool.not_eq_true', Bool.not_eq_false', decide_eq_true_eq, decide_eq_false_iff_not] at *; refine leK_dd ?_; (simp [-List.getD_eq_getElem?_getD, LeS, LeL, lk, *]; done)) | (show (_ : Nat) ≤ _; omega)) <;> (try simp (disch := omega) only [*, ↓Ed, Eu, ↓reduceIte, reduceCtorEq, Nat.reduceAdd, Nat.reduceEqDiff, Nat.reduceLT, Nat.reduceLeDiff, Int.reduceToNat, Int.reduceEq, Int.reduceLT, Int.reduceLE, w64, List.length_append, List.length_map, Nat.mul_one, beq_self_eq_true, Lim.cs, PathC.cs, RuleC.cs, gdP, gdR]))
  rename Nat => p
  refine wpx_loop (fun k : Nat => ⟨lk [(2, .ptr p 0), (7, .sl none 5 (pths l)), (8, .int .i64 l.length), (9, .int .i64 (k : Int))], lk [(p, [.str ap, .int .i64 ac, .str bp, .int .i64 bc, .bool o])]⟩) (fun k => k ≤ l.length ∧ Fact (apartP ⟨ap, ac, bp, bc, o⟩ (l.take k) = true)) (fun k => l.length - k) 0 ⟨by omega, by simp [Fact, apartP]⟩ (Le_lit (by simp [LeL, lk])) ?_
  rintro k ⟨h0, h1⟩
  simp (disch := omega) only [↓Ed, Eu, ↓reduceIte, reduceCtorEq, Nat.reduceAdd, Nat.reduceEqDiff, Nat.reduceLT, Nat.reduceLeDiff, Int.reduceToNat, Int.reduceEq, Int.reduceLT, Int.reduceLE, w64, List.length_append, List.length_map, Nat.mul_one, beq_self_eq_true, Lim.cs, PathC.cs, RuleC.cs, gdP, gdR]
  repeat' ((first | refine NewB_intro0 (fun b => ?_) | (refine NewB_intro (fun b hb => ?_); simp only [ln_cons2, ln_nil, and_true] at hb) | (with_reducible apply And.intro; (focus (first | omega | (simp only [Fact, Bool.not_eq_true', Bool.not_eq_false', decide_eq_true_eq, decide_eq_false_iff_not] at *; omega)))) | ((first | refine gW_sp ?_ | refine condW_sp ?_ | refine pickW_sp ?_); (try refine Sp_n ?_); (first | refine Sp_t (by assumption) ?_ | refine Sp_f (by assumption) ?_ | refine Sp_split (fun h => ?_) (fun h => ?_)) <;> (first | have h' := Fact_lt h | have h' := Fact_nlt h | have h' := Fact_le h | have h' := Fact_nle h | skip) <;> (try (exfalso; omega))) | refine TreeW_intro (by rfl) ?_ | refine TreeW_all ?_ | refine upQ_intro ?_ | refine Two_intro ?_ ?_ | (refine leK_lit ?_; (simp [-List.getD_eq_getElem?_getD, LeL, lk, *]; done)) | (refine leK_dd ?_; (simp [-List.getD_eq_getElem?_getD, LeS, LeL, lk, *]; done)) | (simp only [Fact, Bool.not_eq_true', Bool.not_eq_false', decide_eq_true_eq, decide_eq_false_iff_not] at *; refine leK_dd ?_; (simp [-List.getD_eq_getElem?_getD, LeS, LeL, lk, *]; done)) | (show (_ : Nat) ≤ _; omega)) <;> (try simp (disch := omega) only [*, ↓Ed, Eu, ↓reduceIte, reduceCtorEq, Nat.reduceAdd, Nat.reduceEqDiff, Nat.reduceLT, Nat.reduceLeDiff, Int.reduceToNat, Int.reduceEq, Int.reduceLT, Int.reduceLE, w64, List.length_append, List.length_map, Nat.mul_one, beq_self_eq_true, Lim.cs, PathC.cs, RuleC.cs, gdP, gdR]))
  · simp only [Fact, Bool.not_eq_true', Bool.not_eq_false', decide_eq_true_eq, decide_eq_false_iff_not, Bool.and_eq_true] at *
    exact (apart_bad (k := k) (by omega) (by simp only [meets, h, and_self, decide_true, Bool.true_or])).symm
  · simp only [Fact, Bool.not_eq_true', Bool.not_eq_false', decide_eq_true_eq, decide_eq_false_iff_not, Bool.and_eq_true] at *
    exact (apart_bad (k := k) (by omega) (by simp only [meets, h, and_self, decide_true, Bool.or_true])).symm
  · rename_i _ h3
    have h4 := h
    simp only [Fact, Bool.not_eq_true', Bool.not_eq_false', decide_eq_true_eq, decide_eq_false_iff_not, Bool.and_eq_false_iff] at h3 h4
    refine Round_lit (k + 1) ⟨Le_lit (by simp [LeL, lk]), ⟨by omega, ?_⟩, by omega⟩
    simp only [Fact] at h1 ⊢
    rw [apart_take (by omega), h1]
    simp only [meets, Bool.true_and, Bool.not_eq_true', Bool.or_eq_false_iff, decide_eq_false_iff_not]
    exact ⟨fun g => h3.elim (fun q => q g.1) (fun q => q g.2), fun g => h4.elim (fun q => q g.1) (fun q => q g.2)⟩
  · simp only [Fact] at h1
    rw [List.take_of_length_le (by omega)] at h1
    exact h1.symm
end Go.Proofs.YtbjmcmgekcmbpabDoor
