/- plain laws: patterns -/
import Derived.Test.YtedcagoilpaafaaDoorMr
namespace Go.Proofs.YtedcagoilpaafaaDoor
set_option linter.all false
def sgn (c : UInt8) : Prop := (97 ≤ c.toNat ∧ c.toNat ≤ 122) ∨ (48 ≤ c.toNat ∧ c.toNat ≤ 57) ∨ c.toNat = 45 ∨ c.toNat = 47 ∨ c.toNat = 42 ∨ c.toNat = 63
instance (c : UInt8) : Decidable (sgn c) := by unfold sgn; exact inferInstance
def mayGQ (p : List UInt8) : Prop := p ≠ [] ∧ p.length ≤ 40 ∧ ∀ j, j < p.length → sgn (p.getD j 0)
open Classical in
noncomputable def mayG (p : List UInt8) : Bool := decide (mayGQ p)
theorem mayG_iff {p : List UInt8} : mayG p = true ↔ mayGQ p := by simp [mayG]
theorem mayG_f {p : List UInt8} (h : ¬ mayGQ p) : mayG p = false := by simp [mayG, h]
theorem mayG_end {s : List UInt8} {k : Nat} (hk : s.length ≤ k) (h : ∀ j, j < k → sgn (s.getD j 0)) : mayG s = decide (s.length ≠ 0 ∧ s.length ≤ 40) := by
  unfold mayG
  rw [decide_eq_decide]
  exact ⟨fun g => ⟨fun e => g.1 (List.length_eq_zero_iff.1 e), g.2.1⟩, fun g => ⟨fun e => g.1 (by simp [e]), g.2, fun j hj => h j (by omega)⟩⟩
theorem mayG_bad {s : List UInt8} {k : Nat} (hk : k < s.length) (h : ¬ sgn (s.getD k 0)) : mayG s = false := mayG_f fun g => h (g.2.2 k hk)
theorem sgn_step {s : List UInt8} {k : Nat} (h : ∀ j, j < k → sgn (s.getD j 0)) (g : sgn (s.getD k 0)) : ∀ j, j < k + 1 → sgn (s.getD j 0) := fun j hj => by
  by_cases e : j = k
  · subst e; exact g
  · exact h j (by omega)
/-- Some suffix does it. -/
def mtS (f : List UInt8 → Bool) : List UInt8 → Bool
  | [] => f []
  | x :: s => f (x :: s) || mtS f s
/-- A pattern matches a text. -/
def mt : List UInt8 → List UInt8 → Bool
  | [], s => s.isEmpty
  | c :: p, s => if c = 42 then mtS (mt p) s else match s with
    | [] => false
    | x :: s => (decide (c = 63) || decide (c = x)) && mt p s
noncomputable def matchP (p s : List UInt8) : Bool := mayG p && mt p s
theorem mtS_iff (f : List UInt8 → Bool) : ∀ s, mtS f s = true ↔ ∃ j, j ≤ s.length ∧ f (s.drop j) = true
  | [] => by simp [mtS]
  | x :: s => by
    rw [mtS, Bool.or_eq_true, mtS_iff f s]
    constructor
    · rintro (h | ⟨j, h1, h2⟩)
      · exact ⟨0, by simp, by simpa using h⟩
      · exact ⟨j + 1, by simpa using h1, by simpa using h2⟩
    · rintro ⟨j, h1, h2⟩
      cases j with
      | zero => exact .inl (by simpa using h2)
      | succ j => exact .inr ⟨j, by simpa using h1, by simpa using h2⟩
theorem mt_star (p s : List UInt8) : mt (42 :: p) s = true ↔ ∃ j, j ≤ s.length ∧ mt p (s.drop j) = true := by
  have : mt (42 :: p) s = mtS (mt p) s := by rw [mt.eq_def]; simp
  rw [this, mtS_iff]
theorem mt_char {c x : UInt8} {p s : List UInt8} (h : c ≠ 42) : mt (c :: p) (x :: s) = ((decide (c = 63) || decide (c = x)) && mt p s) := by
  simp only [mt, if_neg h]
theorem mt_nil {c : UInt8} {p : List UInt8} (h : c ≠ 42) : mt (c :: p) [] = false := by
  simp only [mt, if_neg h]
theorem mt_seg : ∀ (seg q s : List UInt8), (∀ c ∈ seg, c ≠ 42) → mt (seg ++ q) s = true → seg.length ≤ s.length ∧ mt q (s.drop seg.length) = true
  | [], q, s, _, h => by simpa using h
  | c :: seg, q, [], hc, h => by rw [List.cons_append, mt_nil (hc c (by simp))] at h; cases h
  | c :: seg, q, x :: s, hc, h => by
    rw [List.cons_append, mt_char (hc c (by simp)), Bool.and_eq_true] at h
    have := mt_seg seg q s (fun d hd => hc d (by simp [hd])) h.2
    simpa using this
theorem mt_stars : ∀ (p : List UInt8), mt p [] = true ↔ ∀ c ∈ p, c = 42
  | [] => by simp [mt]
  | c :: p => by
    by_cases h : c = 42
    · subst h
      rw [mt_star]
      simp [mt_stars p]
    · rw [mt_nil h]; simp [h]
theorem dropg {s : List UInt8} {i : Nat} (h : i < s.length) : s.drop i = s.getD i 0 :: s.drop (i + 1) := by
  rw [List.drop_eq_getElem_cons h]; simp [h]
/-- What the loop keeps. -/
structure GI (p s : List UInt8) (i k st fr : Nat) : Prop where
  bi : i ≤ p.length
  bk : k ≤ s.length
  e : mt p s = true ↔ (if st = 0 then mt (p.drop i) (s.drop k) = true else ∃ j, fr ≤ j ∧ j ≤ s.length ∧ mt (p.drop st) (s.drop j) = true)
  a : st ≠ 0 → (mt (p.drop st) (s.drop fr) = true ↔ mt (p.drop i) (s.drop k) = true)
  g : st ≠ 0 → st ≤ i ∧ fr ≤ k ∧ i - st = k - fr ∧ ∀ j, st ≤ j → j < i → p.getD j 0 ≠ 42
theorem gi0 (p s : List UInt8) : GI p s 0 0 0 0 := ⟨by omega, by omega, by simp, by simp, by simp⟩
theorem seg_of {p : List UInt8} {st i : Nat} (h1 : st ≤ i) (h2 : i ≤ p.length) (h : ∀ j, st ≤ j → j < i → p.getD j 0 ≠ 42) : ∃ seg, p.drop st = seg ++ p.drop i ∧ seg.length = i - st ∧ ∀ c ∈ seg, c ≠ 42 := by
  refine ⟨(p.drop st).take (i - st), ?_, by simp; omega, ?_⟩
  · have : p.drop i = (p.drop st).drop (i - st) := by rw [List.drop_drop]; congr 1; omega
    rw [this, List.take_append_drop]
  · intro c hc
    obtain ⟨j, hj, e⟩ := List.getElem_of_mem hc
    simp only [List.length_take, List.length_drop] at hj
    have := h (st + j) (by omega) (by omega)
    simp only [List.getElem_take, List.getElem_drop] at e
    simpa [List.getD, List.getElem?_eq_getElem (show st + j < p.length by omega), e] using this
theorem gi_star {p s : List UInt8} {i k st fr : Nat} (h : GI p s i k st fr) (hi : i < p.length) (hc : p.getD i 0 = 42) : GI p s (i + 1) k (i + 1) k where
  bi := by omega
  bk := h.bk
  e := by
    rw [h.e, if_neg (by omega : ¬ i + 1 = 0)]
    have hs : mt (p.drop i) (s.drop k) = true ↔ ∃ j, k ≤ j ∧ j ≤ s.length ∧ mt (p.drop (i + 1)) (s.drop j) = true := by
      rw [dropg hi, hc, mt_star]
      constructor
      · rintro ⟨j, h1, h2⟩
        simp only [List.length_drop] at h1
        refine ⟨k + j, by omega, by have := h.bk; omega, by rw [List.drop_drop] at h2; exact h2⟩
      · rintro ⟨j, h1, h2, h3⟩
        refine ⟨j - k, by simp; omega, ?_⟩
        rw [List.drop_drop, show k + (j - k) = j by omega]; exact h3
    by_cases h0 : st = 0
    · rw [if_pos h0]; exact hs
    · rw [if_neg h0]
      obtain ⟨g1, g2, g3, g4⟩ := h.g h0
      constructor
      · rintro ⟨j, h1, h2, h3⟩
        obtain ⟨seg, e1, e2, e3⟩ := seg_of g1 (by omega) g4
        rw [e1] at h3
        have := mt_seg seg _ _ e3 h3
        rw [dropg hi, hc, mt_star] at this
        obtain ⟨t1, j2, t2, t3⟩ := this
        simp only [List.length_drop] at t1 t2
        rw [List.drop_drop, List.drop_drop] at t3
        exact ⟨j + (seg.length + j2), by omega, by omega, t3⟩
      · intro hE
        exact ⟨fr, Nat.le_refl _, by have := h.bk; omega, (h.a h0).2 (hs.2 hE)⟩
  a := fun _ => Iff.rfl
  g := fun _ => ⟨Nat.le_refl _, Nat.le_refl _, by omega, fun j h1 h2 => by omega⟩
theorem gi_char {p s : List UInt8} {i k st fr : Nat} (h : GI p s i k st fr) (hi : i < p.length) (hk : k < s.length) (hc : p.getD i 0 ≠ 42) (hm : p.getD i 0 = 63 ∨ p.getD i 0 = s.getD k 0) : GI p s (i + 1) (k + 1) st fr := by
  have hs : mt (p.drop i) (s.drop k) = true ↔ mt (p.drop (i + 1)) (s.drop (k + 1)) = true := by
    rw [dropg hi, dropg hk, mt_char hc]
    rcases hm with e | e
    · rw [decide_eq_true e]; simp
    · rw [decide_eq_true e]; simp
  refine ⟨by omega, by omega, ?_, fun h0 => (h.a h0).trans hs, fun h0 => ?_⟩
  · rw [h.e]
    by_cases h0 : st = 0
    · rw [if_pos h0, if_pos h0]; exact hs
    · rw [if_neg h0, if_neg h0]
  · obtain ⟨g1, g2, g3, g4⟩ := h.g h0
    refine ⟨by omega, by omega, by omega, fun j h1 h2 => ?_⟩
    by_cases e : j = i
    · subst e; exact hc
    · exact g4 j h1 (by omega)
theorem no_match {p s : List UInt8} {i k : Nat} (hk : k < s.length) (h : ¬ (i < p.length ∧ (p.getD i 0 = 42 ∨ p.getD i 0 = 63 ∨ p.getD i 0 = s.getD k 0))) : mt (p.drop i) (s.drop k) = false := by
  rw [dropg hk]
  by_cases hi : i < p.length
  · rw [dropg hi, mt_char (fun e => h ⟨hi, .inl e⟩)]
    have h1 : ¬ p.getD i 0 = 63 := fun e => h ⟨hi, .inr (.inl e)⟩
    have h2 : ¬ p.getD i 0 = s.getD k 0 := fun e => h ⟨hi, .inr (.inr e)⟩
    rw [decide_eq_false h1, decide_eq_false h2]; rfl
  · rw [List.drop_eq_nil_of_le (by omega), mt]; rfl
theorem gi_back {p s : List UInt8} {i k st fr : Nat} (h : GI p s i k st fr) (hk : k < s.length) (h0 : st ≠ 0) (hm : mt (p.drop i) (s.drop k) = false) : GI p s st (fr + 1) st (fr + 1) := by
  obtain ⟨g1, g2, g3, g4⟩ := h.g h0
  refine ⟨by have := h.bi; omega, by omega, ?_, fun _ => Iff.rfl, fun _ => ⟨Nat.le_refl _, Nat.le_refl _, by omega, fun j h1 h2 => by omega⟩⟩
  rw [h.e, if_neg h0, if_neg h0]
  constructor
  · rintro ⟨j, h1, h2, h3⟩
    refine ⟨j, ?_, h2, h3⟩
    by_cases e : j = fr
    · subst e
      rw [(h.a h0), hm] at h3; cases h3
    · omega
  · rintro ⟨j, h1, h2, h3⟩
    exact ⟨j, by omega, h2, h3⟩
theorem gi_none {p s : List UInt8} {i k fr : Nat} (h : GI p s i k 0 fr) (hm : mt (p.drop i) (s.drop k) = false) : mt p s = false := by
  have := h.e
  rw [if_pos rfl, hm] at this
  cases hv : mt p s with
  | false => rfl
  | true => exact absurd (this.1 hv) (by simp)
theorem gi_end {p s : List UInt8} {i k st fr : Nat} (h : GI p s i k st fr) (hk : s.length ≤ k) : mt p s = true ↔ ∀ c ∈ p.drop i, c = 42 := by
  have hke : k = s.length := by have := h.bk; omega
  have hd : s.drop k = [] := List.drop_eq_nil_of_le hk
  rw [h.e]
  by_cases h0 : st = 0
  · rw [if_pos h0, hd, mt_stars]
  · rw [if_neg h0]
    obtain ⟨g1, g2, g3, g4⟩ := h.g h0
    have ha := h.a h0
    rw [hd, mt_stars] at ha
    constructor
    · rintro ⟨j, h1, h2, h3⟩
      obtain ⟨seg, e1, e2, e3⟩ := seg_of g1 h.bi g4
      have h3' := h3
      rw [e1] at h3
      have := (mt_seg seg _ _ e3 h3).1
      simp only [List.length_drop] at this
      have : j = fr := by omega
      subst this
      exact ha.1 h3'
    · intro hE
      exact ⟨fr, Nat.le_refl _, by omega, ha.2 hE⟩
end Go.Proofs.YtedcagoilpaafaaDoor
