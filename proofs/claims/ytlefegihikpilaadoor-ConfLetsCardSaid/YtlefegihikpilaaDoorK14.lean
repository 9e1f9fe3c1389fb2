import Derived.Test.YtlefegihikpilaaDoorK8
import Derived.Test.YtlefegihikpilaaDoorK9
import Derived.Test.YtlefegihikpilaaDoorK10
import Derived.Test.YtlefegihikpilaaDoorK11
import Derived.Test.YtlefegihikpilaaDoorK12
import Derived.Test.YtlefegihikpilaaDoorK13
import Derived.Lib.FieldsP
import Derived.Lib.TrimUEq
/- plain laws: patterns -/
namespace Go.Proofs.YtlefegihikpilaaDoor
set_option linter.all false
def sgn (c : UInt8) : Prop := (97 ≤ c.toNat ∧ c.toNat ≤ 122) ∨ (48 ≤ c.toNat ∧ c.toNat ≤ 57) ∨ c.toNat = 45 ∨ c.toNat = 47 ∨ c.toNat = 42 ∨ c.toNat = 63
instance (c : UInt8) : Decidable (sgn c) := by unfold sgn; exact inferInstance
def mayGQ (p : List UInt8) : Prop := p ≠ [] ∧ p.length ≤ 40 ∧ ∀ j, j < p.length → sgn (p.getD j 0)
open Classical in
noncomputable def mayG (p : List UInt8) : Bool := decide (mayGQ p)
theorem mayG_iff {p : List UInt8} : mayG p = true ↔ mayGQ p := by simp [mayG]
theorem mayG_f {p : List UInt8} (h : ¬ mayGQ p) : mayG p = false := by simp [mayG, h]
theorem mayG_end {s : List UInt8} {k : Nat} (hk : s.length ≤ k) (h : ∀ j, j < k → sgn (s.getD j 0)) : mayG s = decide (s.length ≠ 0 ∧ s.length ≤ 40) := by
  unfold mayG
  rw [decide_eq_decide]
  exact ⟨fun g => ⟨fun e => g.1 (List.length_eq_zero_iff.1 e), g.2.1⟩, fun g => ⟨fun e => g.1 (by simp [e]), g.2, fun j hj => h j (by omega)⟩⟩
theorem mayG_bad {s : List UInt8} {k : Nat} (hk : k < s.length) (h : ¬ sgn (s.getD k 0)) : mayG s = false := mayG_f fun g => h (g.2.2 k hk)
theorem sgn_step {s : List UInt8} {k : Nat} (h : ∀ j, j < k → sgn (s.getD j 0)) (g : sgn (s.getD k 0)) : ∀ j, j < k + 1 → sgn (s.getD j 0) := fun j hj => by
  by_cases e : j = k
  · subst e; exact g
  · exact h j (by omega)
/-- Some suffix does it. -/
def mtS (f : List UInt8 → Bool) : List UInt8 → Bool
  | [] => f []
  | x :: s => f (x :: s) || mtS f s
/-- A pattern matches a text. -/
def mt : List UInt8 → List UInt8 → Bool
  | [], s => s.isEmpty
  | c :: p, s => if c = 42 then mtS (mt p) s else match s with
    | [] => false
    | x :: s => (decide (c = 63) || decide (c = x)) && mt p s
noncomputable def matchP (p s : List UInt8) : Bool := mayG p && mt p s
theorem mtS_iff (f : List UInt8 → Bool) : ∀ s, mtS f s = true ↔ ∃ j, j ≤ s.length ∧ f (s.drop j) = true
  | [] => by simp [mtS]
  | x :: s => by
    rw [mtS, Bool.or_eq_true, mtS_iff f s]
    constructor
    · rintro (h | ⟨j, h1, h2⟩)
      · exact ⟨0, by simp, by simpa using h⟩
      · exact ⟨j + 1, by simpa using h1, by simpa using h2⟩
    · rintro ⟨j, h1, h2⟩
      cases j with
      | zero => exact .inl (by simpa using h2)
      | succ j => exact .inr ⟨j, by simpa using h1, by simpa using h2⟩
theorem mt_star (p s : List UInt8) : mt (42 :: p) s = true ↔ ∃ j, j ≤ s.length ∧ mt p (s.drop j) = true := by
  have : mt (42 :: p) s = mtS (mt p) s := by rw [mt.eq_def]; simp
  rw [this, mtS_iff]
theorem mt_char {c x : UInt8} {p s : List UInt8} (h : c ≠ 42) : mt (c :: p) (x :: s) = ((decide (c = 63) || decide (c = x)) && mt p s) := by
  simp only [mt, if_neg h]
theorem mt_nil {c : UInt8} {p : List UInt8} (h : c ≠ 42) : mt (c :: p) [] = false := by
  simp only [mt, if_neg h]
theorem mt_seg : ∀ (seg q s : List UInt8), (∀ c ∈ seg, c ≠ 42) → mt (seg ++ q) s = true → seg.length ≤ s.length ∧ mt q (s.drop seg.length) = true
  | [], q, s, _, h => by simpa using h
  | c :: seg, q, [], hc, h => by rw [List.cons_append, mt_nil (hc c (by simp))] at h; cases h
  | c :: seg, q, x :: s, hc, h => by
    rw [List.cons_append, mt_char (hc c (by simp)), Bool.and_eq_true] at h
    have := mt_seg seg q s (fun d hd => hc d (by simp [hd])) h.2
    simpa using this
theorem mt_stars : ∀ (p : List UInt8), mt p [] = true ↔ ∀ c ∈ p, c = 42
  | [] => by simp [mt]
  | c :: p => by
    by_cases h : c = 42
    · subst h
      rw [mt_star]
      simp [mt_stars p]
    · rw [mt_nil h]; simp [h]
theorem dropg {s : List UInt8} {i : Nat} (h : i < s.length) : s.drop i = s.getD i 0 :: s.drop (i + 1) := by
  rw [List.drop_eq_getElem_cons h]; simp [h]
/-- What the loop keeps. -/
structure GI (p s : List UInt8) (i k st fr : Nat) : Prop where
  bi : i ≤ p.length
  bk : k ≤ s.length
  e : mt p s = true ↔ (if st = 0 then mt (p.drop i) (s.drop k) = true else ∃ j, fr ≤ j ∧ j ≤ s.length ∧ mt (p.drop st) (s.drop j) = true)
  a : st ≠ 0 → (mt (p.drop st) (s.drop fr) = true ↔ mt (p.drop i) (s.drop k) = true)
  g : st ≠ 0 → st ≤ i ∧ fr ≤ k ∧ i - st = k - fr ∧ ∀ j, st ≤ j → j < i → p.getD j 0 ≠ 42
theorem gi0 (p s : List UInt8) : GI p s 0 0 0 0 := ⟨by omega, by omega, by simp, by simp, by simp⟩
theorem seg_of {p : List UInt8} {st i : Nat} (h1 : st ≤ i) (h2 : i ≤ p.length) (h : ∀ j, st ≤ j → j < i → p.getD j 0 ≠ 42) : ∃ seg, p.drop st = seg ++ p.drop i ∧ seg.length = i - st ∧ ∀ c ∈ seg, c ≠ 42 := by
  refine ⟨(p.drop st).take (i - st), ?_, by simp; omega, ?_⟩
  · have : p.drop i = (p.drop st).drop (i - st) := by rw [List.drop_drop]; congr 1; omega
    rw [this, List.take_append_drop]
  · intro c hc
    obtain ⟨j, hj, e⟩ := List.getElem_of_mem hc
    simp only [List.length_take, List.length_drop] at hj
    have := h (st + j) (by omega) (by omega)
    simp only [List.getElem_take, List.getElem_drop] at e
    simpa [List.getD, List.getElem?_eq_getElem (show st + j < p.length by omega), e] using this
theorem gi_star {p s : List UInt8} {i k st fr : Nat} (h : GI p s i k st fr) (hi : i < p.length) (hc : p.getD i 0 = 42) : GI p s (i + 1) k (i + 1) k where
  bi := by omega
  bk := h.bk
  e := by
    rw [h.e, if_neg (by omega : ¬ i + 1 = 0)]
    have hs : mt (p.drop i) (s.drop k) = true ↔ ∃ j, k ≤ j ∧ j ≤ s.length ∧ mt (p.drop (i + 1)) (s.drop j) = true := by
      rw [dropg hi, hc, mt_star]
      constructor
      · rintro ⟨j, h1, h2⟩
        simp only [List.length_drop] at h1
        refine ⟨k + j, by omega, by have := h.bk; omega, by rw [List.drop_drop] at h2; exact h2⟩
      · rintro ⟨j, h1, h2, h3⟩
        refine ⟨j - k, by simp; omega, ?_⟩
        rw [List.drop_drop, show k + (j - k) = j by omega]; exact h3
    by_cases h0 : st = 0
    · rw [if_pos h0]; exact hs
    · rw [if_neg h0]
      obtain ⟨g1, g2, g3, g4⟩ := h.g h0
      constructor
      · rintro ⟨j, h1, h2, h3⟩
        obtain ⟨seg, e1, e2, e3⟩ := seg_of g1 (by omega) g4
        rw [e1] at h3
        have := mt_seg seg _ _ e3 h3
        rw [dropg hi, hc, mt_star] at this
        obtain ⟨t1, j2, t2, t3⟩ := this
        simp only [List.length_drop] at t1 t2
        rw [List.drop_drop, List.drop_drop] at t3
        exact ⟨j + (seg.length + j2), by omega, by omega, t3⟩
      · intro hE
        exact ⟨fr, Nat.le_refl _, by have := h.bk; omega, (h.a h0).2 (hs.2 hE)⟩
  a := fun _ => Iff.rfl
  g := fun _ => ⟨Nat.le_refl _, Nat.le_refl _, by omega, fun j h1 h2 => by omega⟩
theorem gi_char {p s : List UInt8} {i k st fr : Nat} (h : GI p s i k st fr) (hi : i < p.length) (hk : k < s.length) (hc : p.getD i 0 ≠ 42) (hm : p.getD i 0 = 63 ∨ p.getD i 0 = s.getD k 0) : GI p s (i + 1) (k + 1) st fr := by
  have hs : mt (p.drop i) (s.drop k) = true ↔ mt (p.drop (i + 1)) (s.drop (k + 1)) = true := by
    rw [dropg hi, dropg hk, mt_char hc]
    rcases hm with e | e
    · rw [decide_eq_true e]; simp
    · rw [decide_eq_true e]; simp
  refine ⟨by omega, by omega, ?_, fun h0 => (h.a h0).trans hs, fun h0 => ?_⟩
  · rw [h.e]
    by_cases h0 : st = 0
    · rw [if_pos h0, if_pos h0]; exact hs
    · rw [if_neg h0, if_neg h0]
  · obtain ⟨g1, g2, g3, g4⟩ := h.g h0
    refine ⟨by omega, by omega, by omega, fun j h1 h2 => ?_⟩
    by_cases e : j = i
    · subst e; exact hc
    · exact g4 j h1 (by omega)
theorem no_match {p s : List UInt8} {i k : Nat} (hk : k < s.length) (h : ¬ (i < p.length ∧ (p.getD i 0 = 42 ∨ p.getD i 0 = 63 ∨ p.getD i 0 = s.getD k 0))) : mt (p.drop i) (s.drop k) = false := by
  rw [dropg hk]
  by_cases hi : i < p.length
  · rw [dropg hi, mt_char (fun e => h ⟨hi, .inl e⟩)]
    have h1 : ¬ p.getD i 0 = 63 := fun e => h ⟨hi, .inr (.inl e)⟩
    have h2 : ¬ p.getD i 0 = s.getD k 0 := fun e => h ⟨hi, .inr (.inr e)⟩
    rw [decide_eq_false h1, decide_eq_false h2]; rfl
  · rw [List.drop_eq_nil_of_le (by omega), mt]; rfl
theorem gi_back {p s : List UInt8} {i k st fr : Nat} (h : GI p s i k st fr) (hk : k < s.length) (h0 : st ≠ 0) (hm : mt (p.drop i) (s.drop k) = false) : GI p s st (fr + 1) st (fr + 1) := by
  obtain ⟨g1, g2, g3, g4⟩ := h.g h0
  refine ⟨by have := h.bi; omega, by omega, ?_, fun _ => Iff.rfl, fun _ => ⟨Nat.le_refl _, Nat.le_refl _, by omega, fun j h1 h2 => by omega⟩⟩
  rw [h.e, if_neg h0, if_neg h0]
  constructor
  · rintro ⟨j, h1, h2, h3⟩
    refine ⟨j, ?_, h2, h3⟩
    by_cases e : j = fr
    · subst e
      rw [(h.a h0), hm] at h3; cases h3
    · omega
  · rintro ⟨j, h1, h2, h3⟩
    exact ⟨j, by omega, h2, h3⟩
theorem gi_none {p s : List UInt8} {i k fr : Nat} (h : GI p s i k 0 fr) (hm : mt (p.drop i) (s.drop k) = false) : mt p s = false := by
  have := h.e
  rw [if_pos rfl, hm] at this
  cases hv : mt p s with
  | false => rfl
  | true => exact absurd (this.1 hv) (by simp)
theorem gi_end {p s : List UInt8} {i k st fr : Nat} (h : GI p s i k st fr) (hk : s.length ≤ k) : mt p s = true ↔ ∀ c ∈ p.drop i, c = 42 := by
  have hke : k = s.length := by have := h.bk; omega
  have hd : s.drop k = [] := List.drop_eq_nil_of_le hk
  rw [h.e]
  by_cases h0 : st = 0
  · rw [if_pos h0, hd, mt_stars]
  · rw [if_neg h0]
    obtain ⟨g1, g2, g3, g4⟩ := h.g h0
    have ha := h.a h0
    rw [hd, mt_stars] at ha
    constructor
    · rintro ⟨j, h1, h2, h3⟩
      obtain ⟨seg, e1, e2, e3⟩ := seg_of g1 h.bi g4
      have h3' := h3
      rw [e1] at h3
      have := (mt_seg seg _ _ e3 h3).1
      simp only [List.length_drop] at this
      have : j = fr := by omega
      subst this
      exact ha.1 h3'
    · intro hE
      exact ⟨fr, Nat.le_refl _, by omega, ha.2 hE⟩
end Go.Proofs.YtlefegihikpilaaDoor

/- chapter 20: patterns, the program's -/
namespace Go.Proofs.YtlefegihikpilaaDoor
set_option linter.all false
open Go.RowKit
set_option maxRecDepth 100000
theorem p_IndexByte (s : List UInt8) (c : UInt8) : CP Tryd.prog 84 [.str s, .int .u8 (c.toNat : Int)] (.int .i64 (Lib.indexByte s c)) :=
  CP_lib (vs := [.string ⟨s.toArray⟩, .int .u8 (c.toNat : Int)]) (v := .int .i64 (Lib.indexByte s c)) rfl (by simp) rfl fun W =>
    (Tryd.strings_IndexByte ⟨s.toArray⟩ (c.toNat : Int) W).mono fun e w' ⟨h1, h2⟩ => ⟨by rw [h1]; simp, h2 ▸ Below.refl _ _⟩
theorem p_Trim (s : List UInt8) (hs : s.length ≤ 1000000) : CP Tryd.prog 47 [.str s, .str [42]] (.str (Lib.trimB s 42)) :=
  CP_lib (vs := [.string ⟨s.toArray⟩, .string ⟨#[42]⟩]) (v := .string ⟨(Lib.trimB s 42).toArray⟩) rfl (by simp) rfl fun W =>
    (Tryd.strings_Trim_one ⟨s.toArray⟩ 42 (by decide) W (by rw [sz_str]; omega)).mono fun e w' ⟨g1, g2⟩ => ⟨g1, by
      rcases g2 with e | e
      · rw [e]; exact Below.refl _ _
      · rw [e]; exact (Below.refl _ _).drew⟩
theorem dw_nil (p : UInt8 → Bool) : ∀ l : List UInt8, l.dropWhile p = [] ↔ ∀ x ∈ l, p x = true
  | [] => by simp
  | x :: l => by
    rw [List.dropWhile_cons]
    cases h : p x with
    | true => simp [h, dw_nil p l]
    | false => simp [h]
theorem dw_hd (p : UInt8 → Bool) : ∀ (l : List UInt8) (y : UInt8) (ys : List UInt8), l.dropWhile p = y :: ys → p y = false
  | [], y, ys, h => by simp at h
  | x :: l, y, ys, h => by
    rw [List.dropWhile_cons] at h
    cases hx : p x with
    | true => rw [hx] at h; exact dw_hd p l y ys (by simpa using h)
    | false => rw [hx] at h; simp at h; rw [← h.1]; exact hx
theorem trim_nil (s : List UInt8) : Lib.trimB s 42 = [] ↔ ∀ c ∈ s, c = 42 := by
  unfold Lib.trimB Lib.trimLeftB Lib.trimRightB
  rw [dw_nil]
  constructor
  · intro h c hc
    have h3 : s.reverse.dropWhile (· == 42) = [] := by
      cases hd : s.reverse.dropWhile (· == 42) with
      | nil => rfl
      | cons y ys =>
        have h4 := dw_hd _ _ _ _ hd
        have h5 := h y (by rw [hd]; simp)
        rw [h5] at h4; cases h4
    rw [dw_nil] at h3
    simpa using h3 c (by simpa using hc)
  · intro h c hc
    have hn : s.reverse.dropWhile (· == 42) = [] := by
      rw [dw_nil]
      intro x hx
      simpa using h x (by simpa using hx)
    rw [hn] at hc
    simp at hc
def sgnB (c : UInt8) : Bool := decide (sgn c)
theorem ix4 (c : UInt8) : decide (0 ≤ Lib.indexByte [45, 47, 42, 63] c) = decide (c.toNat = 45 ∨ c.toNat = 47 ∨ c.toNat = 42 ∨ c.toNat = 63) := by
  have h : ∀ n : Fin 256, decide (0 ≤ Lib.indexByte [45, 47, 42, 63] (UInt8.ofNat n.val)) = decide (n.val = 45 ∨ n.val = 47 ∨ n.val = 42 ∨ n.val = 63) := by decide
  have hc := c.toNat_lt
  have := h ⟨c.toNat, by omega⟩
  simpa using this
theorem p_sign (c : UInt8) : CP Tryd.prog 63 [.int .u8 (c.toNat : Int)] (.bool (sgnB c)) := by
  refine ok_glob_sign _ _ (by simp) ?_
  simp only [c_glob_sign, ↓Ed, Eu, ↓reduceIte, reduceCtorEq, Nat.reduceAdd, Nat.reduceEqDiff, Nat.reduceLT, Nat.reduceLeDiff, Int.reduceToNat, Int.reduceEq, Int.reduceLT, Int.reduceLE, w64, st_nil]
  repeat' ((first | refine CallO_pure (p_IndexByte _ c) ?_ | refine NewB_intro0 (fun b => ?_) | (refine NewB_intro (fun b hb => ?_); simp only [ln_cons2, ln_nil, and_true] at hb) | (with_reducible apply And.intro; (focus (first | omega | (simp only [Fact, Bool.not_eq_true', Bool.not_eq_false', decide_eq_true_eq, decide_eq_false_iff_not] at *; omega)))) | ((first | refine gW_sp ?_ | refine condW_sp ?_ | refine pickW_sp ?_); (try refine Sp_n ?_); (first | refine Sp_t (by assumption) ?_ | refine Sp_f (by assumption) ?_ | refine Sp_split (fun h => ?_) (fun h => ?_)) <;> (first | have h' := Fact_lt h | have h' := Fact_nlt h | have h' := Fact_le h | have h' := Fact_nle h | skip) <;> (try (exfalso; omega))) | refine TreeW_intro (by rfl) ?_ | refine TreeW_all ?_ | refine upQ_intro ?_ | refine Two_intro ?_ ?_ | (refine leK_lit ?_; (simp [-List.getD_eq_getElem?_getD, LeL, lk, *]; done)) | (refine leK_dd ?_; (simp [-List.getD_eq_getElem?_getD, LeS, LeL, lk, *]; done)) | (simp only [Fact, Bool.not_eq_true', Bool.not_eq_false', decide_eq_true_eq, decide_eq_false_iff_not] at *; refine leK_dd ?_; (simp [-List.getD_eq_getElem?_getD, LeS, LeL, lk, *]; done)) | (show (_ : Nat) ≤ _; omega)) <;> (try simp (disch := omega) only [*, ↓Ed, Eu, ↓reduceIte, reduceCtorEq, Nat.reduceAdd, Nat.reduceEqDiff, Nat.reduceLT, Nat.reduceLeDiff, Int.reduceToNat, Int.reduceEq, Int.reduceLT, Int.reduceLE, w64, st_nil]))
  all_goals (try simp only [Fact, Bool.not_eq_true', Bool.not_eq_false', decide_eq_true_eq, decide_eq_false_iff_not] at *)
  all_goals simp only [sgnB, ix4]
  all_goals first
    | (refine (decide_eq_true ?_).symm; unfold sgn; omega)
    | (rw [decide_eq_decide]; unfold sgn; omega)
theorem p_gMay (p : List UInt8) (hs : p.length ≤ 1000000) : CP Tryd.prog 41 [.str p] (.bool (mayG p)) := by
  refine ok_glob_May _ _ (by simp) ?_
  simp only [c_glob_May, ↓Ed, Eu, ↓reduceIte, reduceCtorEq, Nat.reduceAdd, Nat.reduceEqDiff, Nat.reduceLT, Nat.reduceLeDiff, Int.reduceToNat, Int.reduceEq, Int.reduceLT, Int.reduceLE, w64, st_nil]
  repeat' ((first | refine NewB_intro0 (fun b => ?_) | (refine NewB_intro (fun b hb => ?_); simp only [ln_cons2, ln_nil, and_true] at hb) | (with_reducible apply And.intro; (focus (first | omega | (simp only [Fact, Bool.not_eq_true', Bool.not_eq_false', decide_eq_true_eq, decide_eq_false_iff_not] at *; omega)))) | ((first | refine gW_sp ?_ | refine condW_sp ?_ | refine pickW_sp ?_); (try refine Sp_n ?_); (first | refine Sp_t (by assumption) ?_ | refine Sp_f (by assumption) ?_ | refine Sp_split (fun h => ?_) (fun h => ?_)) <;> (first | have h' := Fact_lt h | have h' := Fact_nlt h | have h' := Fact_le h | have h' := Fact_nle h | skip) <;> (try (exfalso; omega))) | refine TreeW_intro (by rfl) ?_ | refine TreeW_all ?_ | refine upQ_intro ?_ | refine Two_intro ?_ ?_ | (refine leK_lit ?_; (simp [-List.getD_eq_getElem?_getD, LeL, lk, *]; done)) | (refine leK_dd ?_; (simp [-List.getD_eq_getElem?_getD, LeS, LeL, lk, *]; done)) | (simp only [Fact, Bool.not_eq_true', Bool.not_eq_false', decide_eq_true_eq, decide_eq_false_iff_not] at *; refine leK_dd ?_; (simp [-List.getD_eq_getElem?_getD, LeS, LeL, lk, *]; done)) | (show (_ : Nat) ≤ _; omega)) <;> (try simp (disch := omega) only [*, ↓Ed, Eu, ↓reduceIte, reduceCtorEq, Nat.reduceAdd, Nat.reduceEqDiff, Nat.reduceLT, Nat.reduceLeDiff, Int.reduceToNat, Int.reduceEq, Int.reduceLT, Int.reduceLE, w64, st_nil]))
  refine wpx_loop (fun k : Nat => ⟨lk [(0, .str p), (5, .int .i64 p.length), (6, .int .i64 k)], lk []⟩) (fun k => k ≤ p.length ∧ Fact (∀ j, j < k → sgn (p.getD j 0))) (fun k => p.length - k) 0 ⟨by omega, fun j h => by omega⟩ (Le_lit (by simp [LeL, lk])) ?_
  intro k ⟨h1, h2⟩
  simp only [↓Ed, Eu, ↓reduceIte, reduceCtorEq, Nat.reduceAdd, Nat.reduceEqDiff, Nat.reduceLT, Nat.reduceLeDiff, Int.reduceToNat, Int.reduceEq, Int.reduceLT, Int.reduceLE, w64, st_nil]
  repeat' ((first | refine CallO_pure (p_sign (p.getD k 0)) ?_ | refine NewB_intro0 (fun b => ?_) | (refine NewB_intro (fun b hb => ?_); simp only [ln_cons2, ln_nil, and_true] at hb) | (with_reducible apply And.intro; (focus (first | omega | (simp only [Fact, Bool.not_eq_true', Bool.not_eq_false', decide_eq_true_eq, decide_eq_false_iff_not] at *; omega)))) | ((first | refine gW_sp ?_ | refine condW_sp ?_ | refine pickW_sp ?_); (try refine Sp_n ?_); (first | refine Sp_t (by assumption) ?_ | refine Sp_f (by assumption) ?_ | refine Sp_split (fun h => ?_) (fun h => ?_)) <;> (first | have h' := Fact_lt h | have h' := Fact_nlt h | have h' := Fact_le h | have h' := Fact_nle h | skip) <;> (try (exfalso; omega))) | refine TreeW_intro (by rfl) ?_ | refine TreeW_all ?_ | refine upQ_intro ?_ | refine Two_intro ?_ ?_ | (refine leK_lit ?_; (simp [-List.getD_eq_getElem?_getD, LeL, lk, *]; done)) | (refine leK_dd ?_; (simp [-List.getD_eq_getElem?_getD, LeS, LeL, lk, *]; done)) | (simp only [Fact, Bool.not_eq_true', Bool.not_eq_false', decide_eq_true_eq, decide_eq_false_iff_not] at *; refine leK_dd ?_; (simp [-List.getD_eq_getElem?_getD, LeS, LeL, lk, *]; done)) | (show (_ : Nat) ≤ _; omega)) <;> (try simp (disch := omega) only [*, ↓Ed, Eu, ↓reduceIte, reduceCtorEq, Nat.reduceAdd, Nat.reduceEqDiff, Nat.reduceLT, Nat.reduceLeDiff, Int.reduceToNat, Int.reduceEq, Int.reduceLT, Int.reduceLE, w64, st_nil]))
  all_goals simp only [Fact, Bool.not_eq_true', Bool.not_eq_false', decide_eq_true_eq, decide_eq_false_iff_not, st_nil, sgnB] at *
  · refine Round_lit (k + 1) ⟨Le_lit (by simp [LeL, lk]), ⟨by omega, sgn_step h2 h⟩, by omega⟩
  · exact (mayG_bad (by omega) h).symm
  · rw [mayG_end (by omega) h2]; simp [h]
  · rw [mayG_end (by omega) h2]; simp [h]; try omega
theorem u8eq (a b : UInt8) : ((a.toNat : Int) = (b.toNat : Int)) = (a = b) := by
  apply propext
  exact ⟨fun h => UInt8.toNat_inj.1 (by omega), fun h => by rw [h]⟩
theorem u8lit (a : UInt8) (n : Nat) (b : UInt8) (h : b.toNat = n) : ((a.toNat : Int) = (n : Int)) ↔ a = b := by
  rw [← h]; exact iff_of_eq (u8eq a b)
theorem u42 {c : UInt8} : ((c.toNat : Int) = 42) ↔ c = 42 := ⟨fun h => UInt8.toNat_inj.1 (by have : (42 : UInt8).toNat = 42 := rfl; omega), fun h => by rw [h]; rfl⟩
theorem u63 {c : UInt8} : ((c.toNat : Int) = 63) ↔ c = 63 := ⟨fun h => UInt8.toNat_inj.1 (by have : (63 : UInt8).toNat = 63 := rfl; omega), fun h => by rw [h]; rfl⟩
theorem all42 (s : List UInt8) (h : Lib.trimB s 42 = []) : ∀ c ∈ s, c = 42 := (trim_nil s).1 h
set_option maxHeartbeats 4000000 in
theorem p_Match (p s : List UInt8) (hp : p.length ≤ 1000000) (hs : s.length ≤ 1000000) : CP Tryd.prog 23 [.str p, .str s] (.bool (matchP p s)) := by
  refine ok_glob_Match _ _ (by simp) ?_
  simp only [c_glob_Match, ↓Ed, Eu, ↓reduceIte, reduceCtorEq, Nat.reduceAdd, Nat.reduceEqDiff, Nat.reduceLT, Nat.reduceLeDiff, Int.reduceToNat, Int.reduceEq, Int.reduceLT, Int.reduceLE, w64, st_nil]
  repeat' ((first | refine CallO_pure (p_gMay p hp) ?_ | refine NewB_intro0 (fun b => ?_) | (refine NewB_intro (fun b hb => ?_); simp only [ln_cons2, ln_nil, and_true] at hb) | (with_reducible apply And.intro; (focus (first | omega | (simp only [Fact, Bool.not_eq_true', Bool.not_eq_false', decide_eq_true_eq, decide_eq_false_iff_not] at *; omega)))) | ((first | refine gW_sp ?_ | refine condW_sp ?_ | refine pickW_sp ?_); (try refine Sp_n ?_); (first | refine Sp_t (by assumption) ?_ | refine Sp_f (by assumption) ?_ | refine Sp_split (fun h => ?_) (fun h => ?_)) <;> (first | have h' := Fact_lt h | have h' := Fact_nlt h | have h' := Fact_le h | have h' := Fact_nle h | skip) <;> (try (exfalso; omega))) | refine TreeW_intro (by rfl) ?_ | refine TreeW_all ?_ | refine upQ_intro ?_ | refine Two_intro ?_ ?_ | (refine leK_lit ?_; (simp [-List.getD_eq_getElem?_getD, LeL, lk, *]; done)) | (refine leK_dd ?_; (simp [-List.getD_eq_getElem?_getD, LeS, LeL, lk, *]; done)) | (simp only [Fact, Bool.not_eq_true', Bool.not_eq_false', decide_eq_true_eq, decide_eq_false_iff_not] at *; refine leK_dd ?_; (simp [-List.getD_eq_getElem?_getD, LeS, LeL, lk, *]; done)) | (show (_ : Nat) ≤ _; omega)) <;> (try simp (disch := omega) only [*, ↓Ed, Eu, ↓reduceIte, reduceCtorEq, Nat.reduceAdd, Nat.reduceEqDiff, Nat.reduceLT, Nat.reduceLeDiff, Int.reduceToNat, Int.reduceEq, Int.reduceLT, Int.reduceLE, w64, st_nil]))
  case' refine_2 => simp only [Fact] at h; simp [matchP, h]
  have hm : matchP p s = mt p s := by simp only [Fact] at h; simp [matchP, h]
  have h40 : p.length ≤ 40 := (mayG_iff.1 h).2.1
  rw [hm]
  refine wpx_loop (fun x : Nat × Nat × Nat × Nat => ⟨lk [(0, .str p), (1, .str s), (5, .int .i64 (x.1 : Int)), (6, .int .i64 (x.2.1 : Int)), (7, .int .i64 ((x.2.2.1 : Int) - 1)), (8, .int .i64 (x.2.2.2 : Int))], lk []⟩)
    (fun x => Fact (GI p s x.1 x.2.1 x.2.2.1 x.2.2.2) ∧ x.1 ≤ p.length ∧ x.2.1 ≤ s.length ∧ x.2.2.1 ≤ p.length ∧ x.2.2.2 ≤ s.length) (fun x => (41 - x.2.2.1) * 200000000 + (1000001 - x.2.2.2) * 100 + (41 - x.1)) (0, 0, 0, 0) ⟨gi0 p s, by simp, by simp, by simp, by simp⟩ (Le_lit (by simp [LeL, lk])) ?_
  rintro ⟨i, k, st, fr⟩ ⟨hg, b1, b2, b3, b4⟩
  simp only at hg b1 b2 b3 b4
  simp only [↓Ed, Eu, ↓reduceIte, reduceCtorEq, Nat.reduceAdd, Nat.reduceEqDiff, Nat.reduceLT, Nat.reduceLeDiff, Int.reduceToNat, Int.reduceEq, Int.reduceLT, Int.reduceLE, w64, st_nil]
  repeat' ((first | refine CallO_pure (p_Trim _ (by simp; omega)) ?_ | refine NewB_intro0 (fun b => ?_) | (refine NewB_intro (fun b hb => ?_); simp only [ln_cons2, ln_nil, and_true] at hb) | (with_reducible apply And.intro; (focus (first | omega | (simp only [Fact, Bool.not_eq_true', Bool.not_eq_false', decide_eq_true_eq, decide_eq_false_iff_not] at *; omega)))) | ((first | refine gW_sp ?_ | refine condW_sp ?_ | refine pickW_sp ?_); (try refine Sp_n ?_); (first | refine Sp_t (by assumption) ?_ | refine Sp_f (by assumption) ?_ | refine Sp_split (fun h => ?_) (fun h => ?_)) <;> (first | have h' := Fact_lt h | have h' := Fact_nlt h | have h' := Fact_le h | have h' := Fact_nle h | skip) <;> (try (exfalso; omega))) | refine TreeW_intro (by rfl) ?_ | refine TreeW_all ?_ | refine upQ_intro ?_ | refine Two_intro ?_ ?_ | (refine leK_lit ?_; (simp [-List.getD_eq_getElem?_getD, LeL, lk, *]; done)) | (refine leK_dd ?_; (simp [-List.getD_eq_getElem?_getD, LeS, LeL, lk, *]; done)) | (simp only [Fact, Bool.not_eq_true', Bool.not_eq_false', decide_eq_true_eq, decide_eq_false_iff_not] at *; refine leK_dd ?_; (simp [-List.getD_eq_getElem?_getD, LeS, LeL, lk, *]; done)) | (show (_ : Nat) ≤ _; omega)) <;> (try simp (disch := omega) only [*, ↓Ed, Eu, ↓reduceIte, reduceCtorEq, Nat.reduceAdd, Nat.reduceEqDiff, Nat.reduceLT, Nat.reduceLeDiff, Int.reduceToNat, Int.reduceEq, Int.reduceLT, Int.reduceLE, w64, st_nil]))
  all_goals (try simp only [Fact, Bool.not_eq_true', Bool.not_eq_false', decide_eq_true_eq, decide_eq_false_iff_not, u42, u63, u8eq] at *)
  · refine Round_lit (i + 1, k, i + 1, k) ⟨Le_lit (by simp [LeL, lk]), ⟨gi_star hg (by omega) h, by simp only; omega, by simp only; omega, by simp only; omega, by simp only; omega⟩, ?_⟩
    obtain ⟨_, _, _, ha, hb⟩ := hg
    have := hb
    simp only
    by_cases h0 : st = 0
    · omega
    · have := hb h0; omega
  · refine Round_lit (i + 1, k + 1, st, fr) ⟨Le_lit (by simp [LeL, lk]), ⟨gi_char hg (by omega) (by omega) (by assumption) (.inl h), by simp only; omega, by simp only; omega, by simp only; omega, by simp only; omega⟩, by simp only; omega⟩
  · refine Round_lit (i + 1, k + 1, st, fr) ⟨Le_lit (by simp [LeL, lk]), ⟨gi_char hg (by omega) (by omega) (by assumption) (.inr h), by simp only; omega, by simp only; omega, by simp only; omega, by simp only; omega⟩, by simp only; omega⟩
  · have hn := no_match (p := p) (s := s) (i := i) (k := k) (by omega) (by rintro ⟨_, g | g | g⟩ <;> contradiction)
    have hk := hg.g (by omega)
    refine Round_lit (st, fr + 1, st, fr + 1) ⟨Le_lit (by simp [LeL, lk]), ⟨gi_back hg (by omega) (by omega) hn, by simp only; omega, by simp only; omega, by simp only; omega, by simp only; omega⟩, by simp only; omega⟩
  · have hn := no_match (p := p) (s := s) (i := i) (k := k) (by omega) (by rintro ⟨_, g | g | g⟩ <;> contradiction)
    obtain rfl : st = 0 := by omega
    exact (gi_none hg hn).symm
  · have hn := no_match (p := p) (s := s) (i := i) (k := k) (by omega) (by rintro ⟨g, _⟩; omega)
    have hk := hg.g (by omega)
    refine Round_lit (st, fr + 1, st, fr + 1) ⟨Le_lit (by simp [LeL, lk]), ⟨gi_back hg (by omega) (by omega) hn, by simp only; omega, by simp only; omega, by simp only; omega, by simp only; omega⟩, by simp only; omega⟩
  · have hn := no_match (p := p) (s := s) (i := i) (k := k) (by omega) (by rintro ⟨g, _⟩; omega)
    obtain rfl : st = 0 := by omega
    exact (gi_none hg hn).symm
  · rw [List.take_length]
    have he := gi_end hg (by omega)
    rw [← trim_nil, ← List.length_eq_zero_iff] at he
    cases hv : mt p s with
    | true => exact decide_eq_true (he.1 hv)
    | false => exact decide_eq_false fun g => by rw [he.2 g] at hv; cases hv
theorem may_ascii {p : List UInt8} (h : mayG p = true) : ∀ (j : Nat) b, p[j]? = some b → b.toNat < 128 := fun j b hb => by
  have hj : j < p.length := by
    by_cases hj : j < p.length
    · exact hj
    · rw [List.getElem?_eq_none (by omega)] at hb; cases hb
  have := (mayG_iff.1 h).2.2 j hj
  simp only [List.getD, hb, Option.getD_some] at this
  unfold sgn at this; omega
/-- No signs. -/
def plainQ (p : List UInt8) : Bool := p.all fun c => !(c == 42 || c == 63)
noncomputable def plainP (p : List UInt8) : Bool := mayG p && plainQ p
theorem contains_any (p : List UInt8) : Lib.containsAny p [42, 63] = !plainQ p := by
  unfold Lib.containsAny plainQ
  induction p with
  | nil => rfl
  | cons c p ih =>
    rw [Lib.indexAny]
    by_cases h : ([42, 63] : List UInt8).contains c = true
    · rw [if_pos h]
      simp at h
      rcases h with e | e <;> simp [e]
    · rw [if_neg h]
      have hge := Lib.indexAny_ge [42, 63] p
      have h' : (c == 42 || c == 63) = false := by simpa using h
      rw [List.all_cons, h', Bool.not_false, Bool.true_and, ← ih]
      by_cases g : Lib.indexAny p [42, 63] = -1
      · rw [g]; simp
      · have : ¬ ((Lib.indexAny p [42, 63] == -1) = true) := by simpa using g
        rw [if_neg this, decide_eq_decide]; omega
end Go.Proofs.YtlefegihikpilaaDoor

/- plain laws: patterns, put together -/
namespace Go.Proofs.YtlefegihikpilaaDoor
set_option linter.all false
theorem mayG_dec (p : List UInt8) : mayG p = decide (p ≠ [] ∧ p.length ≤ 40 ∧ ∀ j, j < p.length → sgn (p.getD j 0)) := by
  unfold mayG mayGQ; rw [decide_eq_decide]
theorem sgn_all (p : List UInt8) : (∀ j, j < p.length → sgn (p.getD j 0)) ↔ ∀ c ∈ p, sgn c := by
  constructor
  · intro h c hc
    obtain ⟨j, hj, e⟩ := List.getElem_of_mem hc
    have := h j hj
    simpa [List.getD, List.getElem?_eq_getElem hj, e] using this
  · intro h j hj
    have := h p[j] (List.getElem_mem hj)
    simpa [List.getD, List.getElem?_eq_getElem hj] using this
theorem mayG_cat {p q : List UInt8} (hp : ∀ c ∈ p, sgn c) (hq : ∀ c ∈ q, sgn c) (hl : p.length + q.length ≤ 40) (hn : 0 < p.length + q.length) : mayG (p ++ q) = true := by
  rw [mayG_iff]
  refine ⟨fun e => ?_, by simp; omega, (sgn_all _).2 fun c hc => ?_⟩
  · have : (p ++ q).length = 0 := by rw [e]; rfl
    simp only [List.length_append] at this; omega
  · rcases List.mem_append.1 hc with h | h
    · exact hp c h
    · exact hq c h
theorem mayG_sgn {p : List UInt8} (h : mayG p = true) : ∀ c ∈ p, sgn c := (sgn_all p).1 (mayG_iff.1 h).2.2
theorem plain_may {p : List UInt8} (h : plainP p = true) : mayG p = true ∧ ∀ c ∈ p, c ≠ 42 ∧ c ≠ 63 := by
  simp only [plainP, plainQ, Bool.and_eq_true, List.all_eq_true] at h
  refine ⟨h.1, fun c hc => ?_⟩
  have := h.2 c hc
  constructor
  · intro e; subst e; simp at this
  · intro e; subst e; simp at this
theorem mt_front : ∀ (a q s : List UInt8), (∀ c ∈ a, c ≠ 42 ∧ c ≠ 63) → (mt (a ++ q) s = true ↔ ∃ t, s = a ++ t ∧ mt q t = true)
  | [], q, s, _ => by simp
  | c :: a, q, [], h => by
    rw [List.cons_append, mt_nil (h c (by simp)).1]
    simp
  | c :: a, q, x :: s, h => by
    rw [List.cons_append, mt_char (h c (by simp)).1, Bool.and_eq_true, mt_front a q s fun d hd => h d (by simp [hd])]
    have h63 : decide (c = 63) = false := decide_eq_false (h c (by simp)).2
    rw [h63, Bool.false_or, decide_eq_true_eq]
    constructor
    · rintro ⟨rfl, t, rfl, ht⟩; exact ⟨t, rfl, ht⟩
    · rintro ⟨t, e, ht⟩
      simp only [List.cons_append, List.cons.injEq] at e
      exact ⟨e.1.symm, t, e.2, ht⟩
theorem mt_nil2 (s : List UInt8) : mt [] s = true ↔ s = [] := by simp [mt]
theorem mt_plain {a : List UInt8} (h : ∀ c ∈ a, c ≠ 42 ∧ c ≠ 63) (s : List UInt8) : mt a s = true ↔ s = a := by
  have := mt_front a [] s h
  rw [List.append_nil] at this
  rw [this]
  simp [mt_nil2]
theorem mt_any (p s : List UInt8) : mt (63 :: p) s = true ↔ ∃ x t, s = x :: t ∧ mt p t = true := by
  cases s with
  | nil => rw [mt_nil (by decide)]; simp
  | cons x t =>
    rw [mt_char (by decide)]
    constructor
    · intro h; exact ⟨x, t, rfl, by simpa using h⟩
    · rintro ⟨y, u, e, h⟩
      cases e
      simpa using h
theorem mt_star' (p s : List UInt8) : mt (42 :: p) s = true ↔ ∃ u t, s = u ++ t ∧ mt p t = true := by
  rw [mt_star]
  constructor
  · rintro ⟨j, h1, h2⟩; exact ⟨s.take j, s.drop j, (List.take_append_drop j s).symm, h2⟩
  · rintro ⟨u, t, rfl, ht⟩; exact ⟨u.length, by simp, by simpa using ht⟩
theorem mt_stars2 (p s : List UInt8) : mt (42 :: 42 :: p) s = true ↔ mt (42 :: p) s = true := by
  rw [mt_star', mt_star']
  constructor
  · rintro ⟨u, t, rfl, ht⟩
    obtain ⟨u', t', rfl, h⟩ := (mt_star' _ _).1 ht
    exact ⟨u ++ u', t', by simp, h⟩
  · rintro ⟨u, t, rfl, ht⟩
    exact ⟨u, t, rfl, (mt_star' _ _).2 ⟨[], t, rfl, ht⟩⟩
/-- Fronts and ends. -/
theorem mt_fe {a b : List UInt8} (ha : ∀ c ∈ a, c ≠ 42 ∧ c ≠ 63) (hb : ∀ c ∈ b, c ≠ 42 ∧ c ≠ 63) (s : List UInt8) :
    mt (a ++ 42 :: b) s = true ↔ a.length + b.length ≤ s.length ∧ s.take a.length = a ∧ s.drop (s.length - b.length) = b := by
  rw [mt_front a _ s ha]
  constructor
  · rintro ⟨t, rfl, ht⟩
    obtain ⟨u, v, rfl, hv⟩ := (mt_star' _ _).1 ht
    rw [mt_plain hb] at hv
    subst hv
    refine ⟨by simp, by simp, ?_⟩
    rw [← List.append_assoc, List.drop_left' (by simp only [List.length_append]; omega)]
  · rintro ⟨h1, h2, h3⟩
    refine ⟨s.drop a.length, by conv => lhs; rw [← List.take_append_drop a.length s, h2], ?_⟩
    rw [mt_star']
    refine ⟨(s.drop a.length).take (s.length - b.length - a.length), b, ?_, (mt_plain hb b).2 rfl⟩
    have : b = (s.drop a.length).drop (s.length - b.length - a.length) := by
      rw [List.drop_drop, show a.length + (s.length - b.length - a.length) = s.length - b.length by omega, h3]
    conv => lhs; rw [← List.take_append_drop (s.length - b.length - a.length) (s.drop a.length), ← this]
/-- A pattern of two. -/
theorem mt_cat : ∀ (p q s : List UInt8), mt (p ++ q) s = true ↔ ∃ u t, s = u ++ t ∧ mt p u = true ∧ mt q t = true
  | [], q, s => ⟨fun h => ⟨[], s, rfl, rfl, h⟩, fun ⟨u, t, e, h1, h2⟩ => by rw [mt_nil2] at h1; subst h1; subst e; exact h2⟩
  | c :: p, q, s => by
    rw [List.cons_append]
    by_cases h : c = 42
    · subst h
      rw [mt_star']
      constructor
      · rintro ⟨u, t, rfl, ht⟩
        obtain ⟨u', t', rfl, h1, h2⟩ := (mt_cat p q t).1 ht
        exact ⟨u ++ u', t', by simp, (mt_star' _ _).2 ⟨u, u', rfl, h1⟩, h2⟩
      · rintro ⟨u, t, rfl, h1, h2⟩
        obtain ⟨u1, u2, rfl, h3⟩ := (mt_star' _ _).1 h1
        exact ⟨u1, u2 ++ t, by simp, (mt_cat p q _).2 ⟨u2, t, rfl, h3, h2⟩⟩
    · cases s with
      | nil =>
        rw [mt_nil h]
        constructor
        · intro e; cases e
        · rintro ⟨u, t, e, h1, _⟩
          have : u = [] := by
            have := congrArg List.length e
            simp only [List.length_nil, List.length_append] at this
            exact List.length_eq_zero_iff.1 (by omega)
          subst this
          rw [mt_nil h] at h1; cases h1
      | cons x s =>
        rw [mt_char h, Bool.and_eq_true, mt_cat p q s]
        constructor
        · rintro ⟨h0, u, t, rfl, h1, h2⟩
          exact ⟨x :: u, t, rfl, by rw [mt_char h, h0, h1]; rfl, h2⟩
        · rintro ⟨u, t, e, h1, h2⟩
          cases u with
          | nil => rw [mt_nil h] at h1; cases h1
          | cons y u =>
            simp only [List.cons_append, List.cons.injEq] at e
            rw [mt_char h, Bool.and_eq_true, ← e.1] at h1
            exact ⟨h1.1, u, t, e.2, h1.2, h2⟩
end Go.Proofs.YtlefegihikpilaaDoor

/- plain laws: the document's table of fronts -/
namespace Go.Proofs.YtlefegihikpilaaDoor
set_option linter.all false
theorem mt_one {c : UInt8} (h : c ≠ 42) (t : List UInt8) : mt [c] t = true ↔ ∃ x, t = [x] ∧ (c = 63 ∨ c = x) := by
  cases t with
  | nil => rw [mt_nil h]; simp
  | cons x t =>
    rw [mt_char h, Bool.and_eq_true, Bool.or_eq_true, decide_eq_true_eq, decide_eq_true_eq]
    cases t with
    | nil => simp [mt]
    | cons y t => simp [mt]
theorem mt_snoc_char {q : List UInt8} {c : UInt8} (h : c ≠ 42) (t : List UInt8) : mt (q ++ [c]) t = true ↔ ∃ u x, t = u ++ [x] ∧ mt q u = true ∧ (c = 63 ∨ c = x) := by
  rw [mt_cat]
  constructor
  · rintro ⟨u, v, rfl, h1, h2⟩
    obtain ⟨x, rfl, hx⟩ := (mt_one h v).1 h2
    exact ⟨u, x, rfl, h1, hx⟩
  · rintro ⟨u, x, rfl, h1, h2⟩
    exact ⟨u, [x], rfl, h1, (mt_one h _).2 ⟨x, rfl, h2⟩⟩
theorem mt_st (t : List UInt8) : mt [42] t = true := by
  rw [mt_star]; exact ⟨t.length, Nat.le_refl _, by simp [mt]⟩
theorem mt_snoc_star (q t : List UInt8) : mt (q ++ [42]) t = true ↔ ∃ u v, t = u ++ v ∧ mt q u = true := by
  rw [mt_cat]
  constructor
  · rintro ⟨u, v, rfl, h1, _⟩; exact ⟨u, v, rfl, h1⟩
  · rintro ⟨u, v, rfl, h1⟩; exact ⟨u, v, rfl, h1, mt_st v⟩
theorem take_snoc {s : List UInt8} {k : Nat} (h : k < s.length) : s.take (k + 1) = s.take k ++ [s.getD k 0] := by
  rw [List.take_succ]; simp [h]
/-- Row i of the table: which fronts of s the front of i signs matches. -/
def fr (p s : List UInt8) (i k : Nat) : Bool := mt (p.take i) (s.take k)
theorem fr_star0 {p s : List UInt8} {i : Nat} (hi : i < p.length) (hc : p.getD i 0 = 42) : fr p s (i + 1) 0 = fr p s i 0 := by
  unfold fr
  rw [take_snoc hi, hc, Bool.eq_iff_iff, mt_snoc_star]
  constructor
  · rintro ⟨u, v, h1, h2⟩
    have : u = [] := by
      have h3 := congrArg List.length h1
      simp at h3
      exact List.length_eq_zero_iff.1 (by omega)
    subst this; simpa using h2
  · intro h; exact ⟨[], [], by simp, by simpa using h⟩
theorem fr_star {p s : List UInt8} {i k : Nat} (hi : i < p.length) (hk : k < s.length) (hc : p.getD i 0 = 42) : fr p s (i + 1) (k + 1) = (fr p s i (k + 1) || fr p s (i + 1) k) := by
  unfold fr
  rw [take_snoc hi, hc, Bool.eq_iff_iff, Bool.or_eq_true, mt_snoc_star, mt_snoc_star]
  constructor
  · rintro ⟨u, v, h1, h2⟩
    by_cases hv : v = []
    · subst hv; rw [List.append_nil] at h1; rw [h1]; exact .inl h2
    · obtain ⟨v', x, rfl⟩ : ∃ v' x, v = v' ++ [x] := ⟨v.dropLast, v.getLast hv, (List.dropLast_concat_getLast hv).symm⟩
      rw [take_snoc hk, ← List.append_assoc] at h1
      exact .inr ⟨u, v', (List.append_inj' h1 rfl).1, h2⟩
  · rintro (h | ⟨u, v, h1, h2⟩)
    · exact ⟨_, [], by simp, h⟩
    · exact ⟨u, v ++ [s.getD k 0], by rw [take_snoc hk, h1, List.append_assoc], h2⟩
theorem fr_char0 {p s : List UInt8} {i : Nat} (hi : i < p.length) (hc : p.getD i 0 ≠ 42) : fr p s (i + 1) 0 = false := by
  unfold fr
  rw [take_snoc hi, Bool.eq_false_iff]
  intro h
  obtain ⟨u, x, h1, _⟩ := (mt_snoc_char hc _).1 h
  simp at h1
theorem fr_char {p s : List UInt8} {i k : Nat} (hi : i < p.length) (hk : k < s.length) (hc : p.getD i 0 ≠ 42) : fr p s (i + 1) (k + 1) = (fr p s i k && (decide (p.getD i 0 = 63) || decide (p.getD i 0 = s.getD k 0))) := by
  unfold fr
  rw [take_snoc hi, take_snoc hk, Bool.eq_iff_iff, mt_snoc_char hc, Bool.and_eq_true, Bool.or_eq_true, decide_eq_true_eq, decide_eq_true_eq]
  constructor
  · rintro ⟨u, x, h1, h2, h3⟩
    obtain ⟨e1, e2⟩ := List.append_inj' h1 rfl
    cases e2
    rw [e1]; exact ⟨h2, h3⟩
  · rintro ⟨h1, h2⟩
    exact ⟨_, _, rfl, h1, h2⟩
/-- A row as it lies: k places told, the others not yet. -/
def rowT (p s : List UInt8) (i k : Nat) : List Bool := (List.range (s.length + 1)).map fun j => decide (j < k) && fr p s i j
theorem rowT_len (p s : List UInt8) (i k : Nat) : (rowT p s i k).length = s.length + 1 := by simp [rowT]
theorem rowT_get {p s : List UInt8} {i k j : Nat} (hj : j ≤ s.length) (hk : j < k) : (rowT p s i k).getD j false = fr p s i j := by
  simp [rowT, List.getD, List.getElem?_range (show j < s.length + 1 by omega), hk]
theorem rowT_set {p s : List UInt8} {i k : Nat} (hk : k ≤ s.length) {b : Bool} (hb : b = fr p s i k) : (rowT p s i k).set k b = rowT p s i (k + 1) := by
  subst hb
  apply List.ext_getElem
  · simp [rowT]
  · intro j h1 h2
    rw [List.getElem_set]
    simp only [rowT, List.getElem_map, List.getElem_range]
    by_cases e : k = j
    · subst e; simp
    · rw [if_neg e]
      have : (j < k) ↔ (j < k + 1) := by omega
      simp [this]
theorem rowT_0 (p s : List UInt8) (i : Nat) : rowT p s i 0 = List.replicate (s.length + 1) false := by
  apply List.ext_getElem
  · simp [rowT]
  · intro j h1 h2; simp [rowT]
theorem rowT_first (p s : List UInt8) : (List.replicate (s.length + 1) false).set 0 true = rowT p s 0 (s.length + 1) := by
  apply List.ext_getElem
  · simp [rowT]
  · intro j h1 h2
    rw [List.getElem_set]
    simp only [rowT, List.getElem_map, List.getElem_range, fr, List.take_zero]
    simp only [List.length_set, List.length_replicate] at h1
    by_cases e : 0 = j
    · subst e; simp [mt]
    · rw [if_neg e, List.getElem_replicate]
      cases hs : s.take j with
      | nil =>
        have := congrArg List.length hs
        simp only [List.length_take, List.length_nil] at this
        omega
      | cons a b => simp [mt]
theorem row_star {p s : List UInt8} {i k : Nat} (v : Bool) (hi : i < p.length) (hk : k ≤ s.length) (hc : p.getD i 0 = 42) (hv : v = ((rowT p s i (s.length + 1)).getD k false || (decide (0 < k) && (rowT p s (i + 1) k).getD (k - 1) false))) :
    (rowT p s (i + 1) k).set k v = rowT p s (i + 1) (k + 1) := by
  refine rowT_set hk ?_
  rw [hv, rowT_get hk (by omega)]
  cases k with
  | zero => simp [fr_star0 hi hc]
  | succ k => rw [Nat.add_sub_cancel, rowT_get (by omega) (by omega), fr_star hi (by omega) hc]; simp
theorem row_char {p s : List UInt8} {i k : Nat} (v : Bool) (hi : i < p.length) (hk : k ≤ s.length) (hc : ¬ p.getD i 0 = 42)
    (hv : v = (decide (0 < k) && ((rowT p s i (s.length + 1)).getD (k - 1) false && (decide (p.getD i 0 = 63) || decide (p.getD i 0 = s.getD (k - 1) 0))))) :
    (rowT p s (i + 1) k).set k v = rowT p s (i + 1) (k + 1) := by
  refine rowT_set hk ?_
  rw [hv]
  cases k with
  | zero => simp [fr_char0 hi hc]
  | succ k => rw [Nat.add_sub_cancel, rowT_get (by omega) (by omega), fr_char hi (by omega) hc]; simp
theorem rowT_end (p s : List UInt8) : (rowT p s p.length (s.length + 1)).getD s.length false = mt p s := by
  rw [rowT_get (Nat.le_refl _) (by omega)]; simp [fr]
end Go.Proofs.YtlefegihikpilaaDoor

/- chapter 20: patterns, the document's: what may be one -/
namespace Go.Proofs.YtlefegihikpilaaDoor
set_option linter.all false
open Go.RowKit
set_option maxRecDepth 100000
set_option maxHeartbeats 2000000 in
theorem p_MayGlob (p : List UInt8) (hs : p.length ≤ 1000000) : CP Tryd.prog 46 [.str p] (.bool (mayG p)) := by
  refine ok_ligref20_MayGlob _ _ (by simp) ?_
  simp only [c_ligref20_MayGlob, ↓Ed, Eu, ↓reduceIte, reduceCtorEq, Nat.reduceAdd, Nat.reduceEqDiff, Nat.reduceLT, Nat.reduceLeDiff, Int.reduceToNat, Int.reduceEq, Int.reduceLT, Int.reduceLE, w64, st_nil]
  repeat' ((first | refine NewB_intro0 (fun b => ?_) | (refine NewB_intro (fun b hb => ?_); simp only [ln_cons2, ln_nil, and_true] at hb) | (with_reducible apply And.intro; (focus (first | omega | (simp only [Fact, Bool.not_eq_true', Bool.not_eq_false', decide_eq_true_eq, decide_eq_false_iff_not] at *; omega)))) | ((first | refine gW_sp ?_ | refine condW_sp ?_ | refine pickW_sp ?_); (try refine Sp_n ?_); (first | refine Sp_t (by assumption) ?_ | refine Sp_f (by assumption) ?_ | refine Sp_split (fun h => ?_) (fun h => ?_)) <;> (first | have h' := Fact_lt h | have h' := Fact_nlt h | have h' := Fact_le h | have h' := Fact_nle h | skip) <;> (try (exfalso; omega))) | refine TreeW_intro (by rfl) ?_ | refine TreeW_all ?_ | refine upQ_intro ?_ | refine Two_intro ?_ ?_ | (refine leK_lit ?_; (simp [-List.getD_eq_getElem?_getD, LeL, lk, *]; done)) | (refine leK_dd ?_; (simp [-List.getD_eq_getElem?_getD, LeS, LeL, lk, *]; done)) | (simp only [Fact, Bool.not_eq_true', Bool.not_eq_false', decide_eq_true_eq, decide_eq_false_iff_not] at *; refine leK_dd ?_; (simp [-List.getD_eq_getElem?_getD, LeS, LeL, lk, *]; done)) | (show (_ : Nat) ≤ _; omega)) <;> (try simp (disch := omega) only [*, ↓Ed, Eu, ↓reduceIte, reduceCtorEq, Nat.reduceAdd, Nat.reduceEqDiff, Nat.reduceLT, Nat.reduceLeDiff, Int.reduceToNat, Int.reduceEq, Int.reduceLT, Int.reduceLE, w64, st_nil]))
  · exact (mayG_f fun g => by simp only [Fact, Bool.not_eq_true', Bool.not_eq_false', decide_eq_true_eq, decide_eq_false_iff_not] at *; have := List.length_pos_iff.2 g.1; omega).symm
  · exact (mayG_f fun g => by simp only [Fact, Bool.not_eq_true', Bool.not_eq_false', decide_eq_true_eq, decide_eq_false_iff_not] at *; have := g.2.1; omega).symm
  refine wpx_loop (fun k : Nat => ⟨lk [(0, .str p), (3, .int .i64 k)], lk []⟩) (fun k => k ≤ p.length ∧ Fact (∀ j, j < k → sgn (p.getD j 0))) (fun k => p.length - k) 0 ⟨by omega, fun j h => by omega⟩ (Le_lit (by simp [LeL, lk])) ?_
  intro k ⟨h1, h2⟩
  simp only [↓Ed, Eu, ↓reduceIte, reduceCtorEq, Nat.reduceAdd, Nat.reduceEqDiff, Nat.reduceLT, Nat.reduceLeDiff, Int.reduceToNat, Int.reduceEq, Int.reduceLT, Int.reduceLE, w64, st_nil]
  repeat' ((first | refine NewB_intro0 (fun b => ?_) | (refine NewB_intro (fun b hb => ?_); simp only [ln_cons2, ln_nil, and_true] at hb) | (with_reducible apply And.intro; (focus (first | omega | (simp only [Fact, Bool.not_eq_true', Bool.not_eq_false', decide_eq_true_eq, decide_eq_false_iff_not] at *; omega)))) | ((first | refine gW_sp ?_ | refine condW_sp ?_ | refine pickW_sp ?_); (try refine Sp_n ?_); (first | refine Sp_t (by assumption) ?_ | refine Sp_f (by assumption) ?_ | refine Sp_split (fun h => ?_) (fun h => ?_)) <;> (first | have h' := Fact_lt h | have h' := Fact_nlt h | have h' := Fact_le h | have h' := Fact_nle h | skip) <;> (try (exfalso; omega))) | refine TreeW_intro (by rfl) ?_ | refine TreeW_all ?_ | refine upQ_intro ?_ | refine Two_intro ?_ ?_ | (refine leK_lit ?_; (simp [-List.getD_eq_getElem?_getD, LeL, lk, *]; done)) | (refine leK_dd ?_; (simp [-List.getD_eq_getElem?_getD, LeS, LeL, lk, *]; done)) | (simp only [Fact, Bool.not_eq_true', Bool.not_eq_false', decide_eq_true_eq, decide_eq_false_iff_not] at *; refine leK_dd ?_; (simp [-List.getD_eq_getElem?_getD, LeS, LeL, lk, *]; done)) | (show (_ : Nat) ≤ _; omega)) <;> (try simp (disch := omega) only [*, ↓Ed, Eu, ↓reduceIte, reduceCtorEq, Nat.reduceAdd, Nat.reduceEqDiff, Nat.reduceLT, Nat.reduceLeDiff, Int.reduceToNat, Int.reduceEq, Int.reduceLT, Int.reduceLE, w64, st_nil]))
  all_goals simp only [Fact, Bool.not_eq_true', Bool.not_eq_false', decide_eq_true_eq, decide_eq_false_iff_not] at *
  all_goals first
    | exact Round_lit (k + 1) ⟨Le_lit (by simp [LeL, lk]), ⟨by omega, sgn_step h2 (by unfold sgn; omega)⟩, by omega⟩
    | exact (mayG_bad (k := k) (by omega) (by unfold sgn; omega)).symm
    | exact mayG_bad (k := k) (by omega) (by unfold sgn; omega)
    | (rw [mayG_end (by omega) h2]; exact (decide_eq_true (by omega)).symm)
theorem plainQ_iff (p : List UInt8) : plainQ p = true ↔ ∀ j, j < p.length → ¬ ((p.getD j 0).toNat = 42 ∨ (p.getD j 0).toNat = 63) := by
  have key : ∀ c : UInt8, (!(c == 42 || c == 63)) = true ↔ ¬ (c.toNat = 42 ∨ c.toNat = 63) := fun c => by
    simp only [Bool.not_eq_true', Bool.or_eq_false_iff, beq_eq_false_iff_ne, ne_eq, not_or]
    constructor
    · rintro ⟨a, b⟩; exact ⟨fun e => a (UInt8.toNat_inj.1 e), fun e => b (UInt8.toNat_inj.1 e)⟩
    · rintro ⟨a, b⟩; exact ⟨fun e => a (by rw [e]; rfl), fun e => b (by rw [e]; rfl)⟩
  unfold plainQ
  rw [List.all_eq_true]
  constructor
  · intro h j hj
    have := h p[j] (List.getElem_mem hj)
    rw [key] at this
    simpa [List.getD, List.getElem?_eq_getElem hj] using this
  · intro h c hc
    obtain ⟨j, hj, rfl⟩ := List.getElem_of_mem hc
    rw [key]
    have := h j hj
    simpa [List.getD, List.getElem?_eq_getElem hj] using this
theorem pl_bad {p : List UInt8} {k : Nat} (hk : k < p.length) (h : (p.getD k 0).toNat = 42 ∨ (p.getD k 0).toNat = 63) : plainP p = false := by
  have : plainQ p = false := Bool.eq_false_iff.2 fun g => (plainQ_iff p).1 g k hk h
  simp [plainP, this]
end Go.Proofs.YtlefegihikpilaaDoor

/- chapter 21: a line's words: bytes 32 and 9 part them, a byte 35 ends the line; what strings.FieldsFunc gives -/
namespace Go.Proofs.YtlefegihikpilaaDoor
set_option linter.all false
open Go.RowKit
set_option maxRecDepth 100000
def blk (c : UInt8) : Bool := decide (c = 32) || decide (c = 9)
def wgo : List UInt8 → List UInt8 → List (List UInt8)
  | cur, [] => if cur = [] then [] else [cur]
  | cur, c :: s => if blk c = true then (if cur = [] then wgo [] s else cur :: wgo [] s) else wgo (cur ++ [c]) s
def noHash (s : List UInt8) : List UInt8 := s.takeWhile fun c => decide (c ≠ 35)
def wordsL (s : List UInt8) : List (List UInt8) := wgo [] (noHash s)
theorem wgo_skip : ∀ (xs cur s : List UInt8), (∀ c ∈ xs, blk c = false) → wgo cur (xs ++ s) = wgo (cur ++ xs) s
  | [], cur, s, _ => by simp
  | c :: xs, cur, s, h => by
    rw [List.cons_append, wgo, if_neg (by rw [h c (by simp)]; decide), wgo_skip xs _ s (fun d hd => h d (by simp [hd]))]
    simp
def spB (x : Nat) : Bool := decide (x = 32) || decide (x = 9)
theorem dec_hi (n b0 b1 b2 b3 : Nat) (hn : 0 < n) (h : 128 ≤ b0) : 128 ≤ (Lib.decodeN n b0 b1 b2 b3).1 ∧ (Lib.decodeN n b0 b1 b2 b3).2 ≤ n ∧ (Lib.decodeN n b0 b1 b2 b3).2 ≤ 4 ∧
    (2 ≤ (Lib.decodeN n b0 b1 b2 b3).2 → 128 ≤ b1) ∧ (3 ≤ (Lib.decodeN n b0 b1 b2 b3).2 → 128 ≤ b2) ∧ (4 ≤ (Lib.decodeN n b0 b1 b2 b3).2 → 128 ≤ b3) := by
  unfold Lib.decodeN
  repeat' split
  all_goals (simp only; omega)
theorem blk_hi {c : UInt8} (h : 128 ≤ c.toNat) : blk c = false := by
  unfold blk
  rw [Bool.or_eq_false_iff]
  constructor <;> (apply decide_eq_false; rintro rfl; simp at h)
/-- A rune's bytes, none of them a blank. -/
theorem dec_take (s : ByteArray) (pos : Nat) (hp : pos < s.data.toList.length) (h : 128 ≤ (s.data.toList.getD pos 0).toNat) :
    spB (Utf8.decode s pos).1 = false ∧ 1 ≤ (Utf8.decode s pos).2 ∧ pos + (Utf8.decode s pos).2 ≤ s.data.toList.length ∧ ∀ c ∈ (s.data.toList.drop pos).take (Utf8.decode s pos).2, blk c = false := by
  have hw := Lib.width_pos s pos
  rw [Lib.decode_N] at hw ⊢
  obtain ⟨h1, h2, h3, h4, h5, h6⟩ := dec_hi (s.data.toList.length - pos) _ (s.data.toList.getD (pos + 1) 0).toNat (s.data.toList.getD (pos + 2) 0).toNat (s.data.toList.getD (pos + 3) 0).toNat (by omega) h
  refine ⟨?_, hw, by omega, fun c hc => ?_⟩
  · unfold spB
    rw [Bool.or_eq_false_iff]
    constructor <;> (apply decide_eq_false; omega)
  · obtain ⟨j, hj, e⟩ := List.getElem_of_mem hc
    rw [List.length_take, List.length_drop] at hj
    have e2 : c = s.data.toList.getD (pos + j) 0 := by
      rw [← e]; simp [List.getD, List.getElem?_eq_getElem (show pos + j < s.data.toList.length by omega)]
    rw [e2]
    apply blk_hi
    have hj4 : j = 0 ∨ j = 1 ∨ j = 2 ∨ j = 3 := by omega
    rcases hj4 with rfl | rfl | rfl | rfl
    · exact h
    · exact h4 (by omega)
    · exact h5 (by omega)
    · exact h6 (by omega)
theorem dec_lo (s : ByteArray) (pos : Nat) (h : ¬ 128 ≤ (s.data.toList.getD pos 0).toNat) : Utf8.decode s pos = ((s.data.toList.getD pos 0).toNat, 1) := by
  rw [Lib.decode_N]; unfold Lib.decodeN; rw [if_pos (by omega)]
def piece (L : List UInt8) (x : Nat × Nat) : List UInt8 := (L.take x.2).drop x.1
def curP (L : List UInt8) (st : Option Nat) (pos : Nat) : List UInt8 := match st with
  | none => []
  | some a => piece L (a, pos)
theorem piece_ne {L : List UInt8} {a b : Nat} (h : a < b) (hb : b ≤ L.length) : piece L (a, b) ≠ [] := by
  intro e
  have := congrArg List.length e
  simp [piece] at this; omega
theorem piece_add {L : List UInt8} {a pos w : Nat} (h : a ≤ pos) (hb : pos + w ≤ L.length) : piece L (a, pos + w) = piece L (a, pos) ++ (L.drop pos).take w := by
  unfold piece
  simp only [List.take_add]
  rw [List.drop_append_of_le_length (by simp; omega)]
theorem spB_blk (c : UInt8) : spB c.toNat = blk c := by
  unfold spB blk
  have e : ∀ k : UInt8, decide (c.toNat = k.toNat) = decide (c = k) := fun k => decide_eq_decide.2 ⟨fun h => UInt8.toNat_inj.1 h, fun h => by rw [h]⟩
  rw [← e 32, ← e 9]; rfl
theorem spans_words (s : ByteArray) : ∀ (f pos : Nat) (st : Option Nat) (acc : List (Nat × Nat)), s.data.toList.length - pos ≤ f → (∀ a, st = some a → a < pos) → pos ≤ s.data.toList.length →
    (Lib.closeSpans s (Lib.spansFromP spB s f pos st acc)).map (piece s.data.toList) = acc.map (piece s.data.toList) ++ wgo (curP s.data.toList st pos) (s.data.toList.drop pos) := by
  have hsz : s.size = s.data.toList.length := by rw [Array.length_toList]; rfl
  have hend : ∀ (pos : Nat) (st : Option Nat) (acc : List (Nat × Nat)), (∀ a, st = some a → a < pos) → pos = s.data.toList.length →
      (Lib.closeSpans s (acc, st)).map (piece s.data.toList) = acc.map (piece s.data.toList) ++ wgo (curP s.data.toList st pos) (s.data.toList.drop pos) := by
    intro pos st acc hst he
    rw [he, List.drop_length]
    cases st with
    | none => simp [Lib.closeSpans, curP, wgo]
    | some a =>
      have := hst a rfl
      have hne := piece_ne (L := s.data.toList) (a := a) (b := s.data.toList.length) (by omega) (Nat.le_refl _)
      simp only [Lib.closeSpans, curP, wgo, List.map_append, List.map_cons, List.map_nil, hsz, hne, if_false]
  intro f
  induction f with
  | zero =>
    intro pos st acc hf hst hp
    exact hend pos st acc hst (by omega)
  | succ f ih =>
    intro pos st acc hf hst hp
    unfold Lib.spansFromP
    by_cases hlt : pos < s.data.toList.length
    rotate_left
    · rw [if_neg (by omega)]; exact hend pos st acc hst (by omega)
    rw [if_pos (by omega)]
    have hd : s.data.toList.drop pos = s.data.toList.getD pos 0 :: s.data.toList.drop (pos + 1) := by
      rw [List.drop_eq_getElem_cons hlt, List.getD, List.getElem?_eq_getElem hlt]; rfl
    by_cases hb : spB (Utf8.decode s pos).1 = true
    · rw [if_pos hb]
      have hlo : ¬ 128 ≤ (s.data.toList.getD pos 0).toNat := fun h => by rw [(dec_take s pos hlt h).1] at hb; cases hb
      have e := dec_lo s pos hlo
      have hk : blk (s.data.toList.getD pos 0) = true := by rw [← spB_blk]; rw [e] at hb; exact hb
      rw [e, hd]
      cases st with
      | none =>
        simp only
        rw [ih (pos + 1) none acc (by omega) (fun a h => by cases h) (by omega)]
        simp only [curP]
        rw [wgo, if_pos hk, if_pos rfl]
      | some a =>
        simp only
        have ha := hst a rfl
        rw [ih (pos + 1) none _ (by omega) (fun a h => by cases h) (by omega)]
        simp only [curP]
        rw [wgo, if_pos hk, if_neg (piece_ne ha (by omega))]
        simp
    · rw [if_neg hb]
      have key : 1 ≤ (Utf8.decode s pos).2 ∧ pos + (Utf8.decode s pos).2 ≤ s.data.toList.length ∧ ∀ c ∈ (s.data.toList.drop pos).take (Utf8.decode s pos).2, blk c = false := by
        by_cases hlo : 128 ≤ (s.data.toList.getD pos 0).toNat
        · exact (dec_take s pos hlt hlo).2
        · have e := dec_lo s pos hlo
          rw [e] at hb ⊢
          refine ⟨Nat.le_refl _, by simp only; omega, fun c hc => ?_⟩
          rw [hd] at hc
          simp only [List.take_succ_cons, List.take_zero, List.mem_singleton] at hc
          rw [hc, ← spB_blk]; simpa using hb
      obtain ⟨k1, k2, k3⟩ := key
      generalize (Utf8.decode s pos).2 = w at k1 k2 k3
      have hsplit : s.data.toList.drop pos = (s.data.toList.drop pos).take w ++ s.data.toList.drop (pos + w) := by
        rw [← List.drop_drop, List.take_append_drop]
      cases st with
      | none =>
        simp only
        rw [ih (pos + w) (some pos) acc (by omega) (fun a h => by cases h; omega) k2]
        simp only [curP]
        rw [hsplit, wgo_skip _ _ _ k3, piece_add (Nat.le_refl _) k2]
        have e0 : piece s.data.toList (pos, pos) = [] := by simp [piece]
        rw [e0]
      | some a =>
        simp only
        have ha := hst a rfl
        rw [ih (pos + w) (some a) acc (by omega) (fun b h => by cases h; omega) k2]
        simp only [curP]
        rw [hsplit, wgo_skip _ _ _ k3, piece_add (by omega) k2]
theorem fields_words (s : List UInt8) : (Lib.goFieldsP spB ⟨s.toArray⟩).map (·.data.toList) = wgo [] s := by
  have h := spans_words ⟨s.toArray⟩ s.length 0 none [] (by simp) (fun a h => by cases h) (by omega)
  simp only [List.map_nil, List.nil_append, curP, List.drop_zero] at h
  unfold Lib.goFieldsP Lib.spansOfP
  rw [List.map_map]
  have hs : (⟨s.toArray⟩ : ByteArray).size = s.length := by simp [ByteArray.size]
  rw [hs]
  refine Eq.trans (List.map_congr_left fun x _ => ?_) h
  simp only [Function.comp, piece, ByteArray.data_extract, Array.toList_extract, List.drop_take]
theorem cut_of_no35 {s : List UInt8} (h : 35 ∉ s) : Lib.cut s [35] = (s, [], false) := by
  have : Lib.index s [35] = -1 := Lib.index_none fun j _ => by
    rw [← Bool.not_eq_true, occz]
    rintro ⟨g1, g2⟩
    rw [List.getD, List.getElem?_eq_getElem g1] at g2
    exact h (by rw [← g2]; exact List.getElem_mem g1)
  unfold Lib.cut
  rw [this, if_neg (by omega)]
theorem cut_of_35 {t r : List UInt8} (h : 35 ∉ t) : Lib.cut (t ++ 35 :: r) [35] = (t, r, true) := by
  have : Lib.index (t ++ 35 :: r) [35] = t.length := Lib.index_first (by simp) (occz.2 ⟨by simp, by simp [List.getD]⟩) fun j hj => by
    rw [← Bool.not_eq_true, occz]
    rintro ⟨_, g2⟩
    rw [List.getD, List.getElem?_append_left hj, List.getElem?_eq_getElem hj] at g2
    exact h (by rw [← g2]; exact List.getElem_mem hj)
  unfold Lib.cut
  rw [this, if_pos (by omega)]
  simp
theorem noHash_no : ∀ (s : List UInt8), 35 ∉ noHash s
  | [] => by simp [noHash]
  | c :: s => by
    unfold noHash
    rw [List.takeWhile_cons]
    split
    · rename_i h
      simp only [decide_eq_true_eq] at h
      rw [List.mem_cons, not_or]
      exact ⟨fun e => h e.symm, noHash_no s⟩
    · simp
theorem noHash_split : ∀ (s : List UInt8), s = noHash s ∨ ∃ r, s = noHash s ++ 35 :: r
  | [] => .inl rfl
  | c :: s => by
    unfold noHash
    rw [List.takeWhile_cons]
    split
    · rcases noHash_split s with e | ⟨r, e⟩
      · exact .inl (congrArg (c :: ·) e)
      · exact .inr ⟨r, congrArg (c :: ·) e⟩
    · rename_i h
      simp only [ne_eq, decide_not, Bool.not_eq_true', decide_eq_false_iff_not, Decidable.not_not] at h
      exact .inr ⟨s, by rw [h]; rfl⟩
theorem cut_hash (s : List UInt8) : (Lib.cut s [35]).1 = noHash s := by
  rcases noHash_split s with e | ⟨r, e⟩
  · have h := noHash_no s
    rw [← e] at h
    rw [cut_of_no35 h]; exact e
  · conv => lhs; rw [e]
    rw [cut_of_35 (noHash_no s)]
theorem noHash_len (s : List UInt8) : (noHash s).length ≤ s.length := (List.takeWhile_sublist _).length_le
theorem wgo_len : ∀ (s cur : List UInt8), (wgo cur s).length ≤ s.length + 1
  | [], cur => by rw [wgo]; split <;> simp
  | c :: s, cur => by
    rw [wgo]
    split
    · split
      · have := wgo_len s []; simp only [List.length_cons]; omega
      · have := wgo_len s []; simp only [List.length_cons]; omega
    · have := wgo_len s (cur ++ [c]); simp only [List.length_cons]; omega
theorem wgo_el : ∀ (s cur : List UInt8), ∀ w ∈ wgo cur s, w ≠ [] ∧ w.length ≤ cur.length + s.length
  | [], cur, w, h => by
    rw [wgo] at h
    split at h
    · cases h
    · simp at h; subst h; exact ⟨by assumption, by simp⟩
  | c :: s, cur, w, h => by
    rw [wgo] at h
    split at h
    · split at h
      · have := wgo_el s [] w h; simp only [List.length_cons, List.length_nil] at *; exact ⟨this.1, by omega⟩
      · rcases List.mem_cons.1 h with rfl | h
        · exact ⟨by assumption, by omega⟩
        · have := wgo_el s [] w h; simp only [List.length_cons, List.length_nil] at *; exact ⟨this.1, by omega⟩
    · have := wgo_el s (cur ++ [c]) w h; simp only [List.length_cons, List.length_append, List.length_nil] at *; exact ⟨this.1, by omega⟩
theorem words_el {s w : List UInt8} (h : w ∈ wordsL s) : w ≠ [] ∧ w.length ≤ s.length := by
  have h1 := wgo_el _ _ w h
  have h2 := noHash_len s
  exact ⟨h1.1, Nat.le_trans h1.2 (by simpa using h2)⟩
theorem words_len (s : List UInt8) : (wordsL s).length ≤ s.length + 1 := Nat.le_trans (wgo_len _ _) (by have := noHash_len s; omega)
end Go.Proofs.YtlefegihikpilaaDoor
