/- chapter 20: patterns, the program's -/
import Derived.Test.YtedcagoilpaafaaDoorCode
import Derived.Test.YtedcagoilpaafaaDoorMs
import Derived.Test.YtedcagoilpaafaaDoorShelf
import Derived.Test.YtedcagoilpaafaaDoorNf
namespace Go.Proofs.YtedcagoilpaafaaDoor
set_option linter.all false
open Go.RowKit
set_option maxRecDepth 100000
theorem st_nil (s : List UInt8) : (s = ([] : List UInt8)) = (s.length = 0) := by simp [List.length_eq_zero_iff]
theorem sz_str (l : List UInt8) : (⟨l.toArray⟩ : ByteArray).size = l.length := by simp [ByteArray.size]
theorem p_IndexByte (s : List UInt8) (c : UInt8) : CP Tryd.prog 25 [.str s, .int .u8 (c.toNat : Int)] (.int .i64 (Lib.indexByte s c)) :=
  CP_lib (vs := [.string ⟨s.toArray⟩, .int .u8 (c.toNat : Int)]) (v := .int .i64 (Lib.indexByte s c)) rfl (by simp) rfl fun W =>
    (Tryd.strings_IndexByte ⟨s.toArray⟩ (c.toNat : Int) W).mono fun e w' ⟨h1, h2⟩ => ⟨by rw [h1]; simp, h2 ▸ Below.refl _ _⟩
theorem p_ContainsAny (s cs : List UInt8) (hs : s.length ≤ 1000000) (hc : cs.length ≤ 1000000) (h1 : ∀ (j : Nat) b, s[j]? = some b → b.toNat < 128) (h2 : ∀ (j : Nat) b, cs[j]? = some b → b.toNat < 128) :
    CP Tryd.prog 20 [.str s, .str cs] (.bool (Lib.containsAny s cs)) :=
  CP_lib (vs := [.string ⟨s.toArray⟩, .string ⟨cs.toArray⟩]) (v := .bool (Lib.containsAny s cs)) rfl (by simp) rfl fun W =>
    (Tryd.strings_ContainsAny_laid ⟨s.toArray⟩ ⟨cs.toArray⟩ W (by rw [sz_str]; omega) (by rw [sz_str]; omega) h1 h2).mono fun e w' ⟨g1, g2⟩ => ⟨g1, g2⟩
theorem p_Trim (s : List UInt8) (hs : s.length ≤ 1000000) : CP Tryd.prog 19 [.str s, .str [42]] (.str (Lib.trimB s 42)) :=
  CP_lib (vs := [.string ⟨s.toArray⟩, .string ⟨#[42]⟩]) (v := .string ⟨(Lib.trimB s 42).toArray⟩) rfl (by simp) rfl fun W =>
    (Tryd.strings_Trim_one ⟨s.toArray⟩ 42 (by decide) W (by rw [sz_str]; omega)).mono fun e w' ⟨g1, g2⟩ => ⟨g1, by
      rcases g2 with e | e
      · rw [e]; exact Below.refl _ _
      · rw [e]; exact (Below.refl _ _).drew⟩
theorem dw_nil (p : UInt8 → Bool) : ∀ l : List UInt8, l.dropWhile p = [] ↔ ∀ x ∈ l, p x = true
  | [] => by simp
  | x :: l => by
    rw [List.dropWhile_cons]
    cases h : p x with
    | true => simp [h, dw_nil p l]
    | false => simp [h]
theorem dw_hd (p : UInt8 → Bool) : ∀ (l : List UInt8) (y : UInt8) (ys : List UInt8), l.dropWhile p = y :: ys → p y = false
  | [], y, ys, h => by simp at h
  | x :: l, y, ys, h => by
    rw [List.dropWhile_cons] at h
    cases hx : p x with
    | true => rw [hx] at h; exact dw_hd p l y ys (by simpa using h)
    | false => rw [hx] at h; simp at h; rw [← h.1]; exact hx
theorem trim_nil (s : List UInt8) : Lib.trimB s 42 = [] ↔ ∀ c ∈ s, c = 42 := by
  unfold Lib.trimB Lib.trimLeftB Lib.trimRightB
  rw [dw_nil]
  constructor
  · intro h c hc
    have h3 : s.reverse.dropWhile (· == 42) = [] := by
      cases hd : s.reverse.dropWhile (· == 42) with
      | nil => rfl
      | cons y ys =>
        have h4 := dw_hd _ _ _ _ hd
        have h5 := h y (by rw [hd]; simp)
        rw [h5] at h4; cases h4
    rw [dw_nil] at h3
    simpa using h3 c (by simpa using hc)
  · intro h c hc
    have hn : s.reverse.dropWhile (· == 42) = [] := by
      rw [dw_nil]
      intro x hx
      simpa using h x (by simpa using hx)
    rw [hn] at hc
    simp at hc
def sgnB (c : UInt8) : Bool := decide (sgn c)
theorem ix4 (c : UInt8) : decide (0 ≤ Lib.indexByte [45, 47, 42, 63] c) = decide (c.toNat = 45 ∨ c.toNat = 47 ∨ c.toNat = 42 ∨ c.toNat = 63) := by
  have h : ∀ n : Fin 256, decide (0 ≤ Lib.indexByte [45, 47, 42, 63] (UInt8.ofNat n.val)) = decide (n.val = 45 ∨ n.val = 47 ∨ n.val = 42 ∨ n.val = 63) := by decide
  have hc := c.toNat_lt
  have := h ⟨c.toNat, by omega⟩
  simpa using this
theorem p_sign (c : UInt8) : CP Tryd.prog 18 [.int .u8 (c.toNat : Int)] (.bool (sgnB c)) := by
  refine ok_glob_sign _ _ (by simp) ?_
  simp only [c_glob_sign, ↓Ed, Eu, ↓reduceIte, reduceCtorEq, Nat.reduceAdd, Nat.reduceEqDiff, Nat.reduceLT, Nat.reduceLeDiff, Int.reduceToNat, Int.reduceEq, Int.reduceLT, Int.reduceLE, w64, st_nil]
  repeat' (first | (refine CallO_pure (p_IndexByte _ c) ?_; simp (disch := omega) only [*, ↓Ed, Eu, ↓reduceIte, reduceCtorEq, Nat.reduceAdd, Nat.reduceEqDiff, Nat.reduceLT, Nat.reduceLeDiff, Int.reduceToNat, Int.reduceEq, Int.reduceLT, Int.reduceLE, w64, st_nil]) | (refine NewB_intro0 (fun b => ?_); simp only [↓Ed, Eu, ↓reduceIte, reduceCtorEq, Nat.reduceAdd, Nat.reduceEqDiff, Nat.reduceLT, Nat.reduceLeDiff, Int.reduceToNat, Int.reduceEq, Int.reduceLT, Int.reduceLE, w64, st_nil]) | (refine NewB_intro (fun b hb => ?_); simp only [ln_cons2, ln_nil, and_true] at hb; simp (disch := omega) only [*, ↓Ed, Eu, ↓reduceIte, reduceCtorEq, Nat.reduceAdd, Nat.reduceEqDiff, Nat.reduceLT, Nat.reduceLeDiff, Int.reduceToNat, Int.reduceEq, Int.reduceLT, Int.reduceLE, w64, st_nil]) | (with_reducible apply And.intro; (focus (first | omega | (simp only [Fact, Bool.not_eq_true', Bool.not_eq_false', decide_eq_true_eq, decide_eq_false_iff_not] at *; omega))); (try simp (disch := omega) only [*, ↓Ed, Eu, ↓reduceIte, reduceCtorEq, Nat.reduceAdd, Nat.reduceEqDiff, Nat.reduceLT, Nat.reduceLeDiff, Int.reduceToNat, Int.reduceEq, Int.reduceLT, Int.reduceLE, w64, st_nil])) | ((first | refine gW_sp ?_ | refine condW_sp ?_ | refine pickW_sp ?_); (try refine Sp_n ?_); (first | refine Sp_t (by assumption) ?_ | refine Sp_f (by assumption) ?_ | refine Sp_split (fun h => ?_) (fun h => ?_)) <;> (first | have h' := Fact_lt h | have h' := Fact_nlt h | have h' := Fact_le h | have h' := Fact_nle h | skip) <;> (first | (exfalso; omega) | simp (disch := omega) only [*, ↓Ed, Eu, ↓reduceIte, reduceCtorEq, Nat.reduceAdd, Nat.reduceEqDiff, Nat.reduceLT, Nat.reduceLeDiff, Int.reduceToNat, Int.reduceEq, Int.reduceLT, Int.reduceLE, w64, st_nil])) | (show (_ : Nat) ≤ _; omega))
  all_goals (try simp only [Fact, Bool.not_eq_true', Bool.not_eq_false', decide_eq_true_eq, decide_eq_false_iff_not] at *)
  all_goals simp only [sgnB, ix4]
  all_goals first
    | (refine (decide_eq_true ?_).symm; unfold sgn; omega)
    | (rw [decide_eq_decide]; unfold sgn; omega)
theorem p_gMay (p : List UInt8) (hs : p.length ≤ 1000000) : CP Tryd.prog 9 [.str p] (.bool (mayG p)) := by
  refine ok_glob_May _ _ (by simp) ?_
  simp only [c_glob_May, ↓Ed, Eu, ↓reduceIte, reduceCtorEq, Nat.reduceAdd, Nat.reduceEqDiff, Nat.reduceLT, Nat.reduceLeDiff, Int.reduceToNat, Int.reduceEq, Int.reduceLT, Int.reduceLE, w64, st_nil]
  repeat' (first | (refine NewB_intro0 (fun b => ?_); simp only [↓Ed, Eu, ↓reduceIte, reduceCtorEq, Nat.reduceAdd, Nat.reduceEqDiff, Nat.reduceLT, Nat.reduceLeDiff, Int.reduceToNat, Int.reduceEq, Int.reduceLT, Int.reduceLE, w64, st_nil]) | (refine NewB_intro (fun b hb => ?_); simp only [ln_cons2, ln_nil, and_true] at hb; simp (disch := omega) only [*, ↓Ed, Eu, ↓reduceIte, reduceCtorEq, Nat.reduceAdd, Nat.reduceEqDiff, Nat.reduceLT, Nat.reduceLeDiff, Int.reduceToNat, Int.reduceEq, Int.reduceLT, Int.reduceLE, w64, st_nil]) | (with_reducible apply And.intro; (focus (first | omega | (simp only [Fact, Bool.not_eq_true', Bool.not_eq_false', decide_eq_true_eq, decide_eq_false_iff_not] at *; omega))); (try simp (disch := omega) only [*, ↓Ed, Eu, ↓reduceIte, reduceCtorEq, Nat.reduceAdd, Nat.reduceEqDiff, Nat.reduceLT, Nat.reduceLeDiff, Int.reduceToNat, Int.reduceEq, Int.reduceLT, Int.reduceLE, w64, st_nil])) | ((first | refine gW_sp ?_ | refine condW_sp ?_ | refine pickW_sp ?_); (try refine Sp_n ?_); (first | refine Sp_t (by assumption) ?_ | refine Sp_f (by assumption) ?_ | refine Sp_split (fun h => ?_) (fun h => ?_)) <;> (first | have h' := Fact_lt h | have h' := Fact_nlt h | have h' := Fact_le h | have h' := Fact_nle h | skip) <;> (first | (exfalso; omega) | simp (disch := omega) only [*, ↓Ed, Eu, ↓reduceIte, reduceCtorEq, Nat.reduceAdd, Nat.reduceEqDiff, Nat.reduceLT, Nat.reduceLeDiff, Int.reduceToNat, Int.reduceEq, Int.reduceLT, Int.reduceLE, w64, st_nil])) | (show (_ : Nat) ≤ _; omega))
  refine wpx_loop (fun k : Nat => ⟨lk [(0, .str p), (5, .int .i64 p.length), (6, .int .i64 k)], lk []⟩) (fun k => k ≤ p.length ∧ Fact (∀ j, j < k → sgn (p.getD j 0))) (fun k => p.length - k) 0 ⟨by omega, fun j h => by omega⟩ (Le_lit (by simp [LeL, lk])) ?_
  intro k ⟨h1, h2⟩
  simp only [↓Ed, Eu, ↓reduceIte, reduceCtorEq, Nat.reduceAdd, Nat.reduceEqDiff, Nat.reduceLT, Nat.reduceLeDiff, Int.reduceToNat, Int.reduceEq, Int.reduceLT, Int.reduceLE, w64, st_nil]
  repeat' (first | (refine CallO_pure (p_sign (p.getD k 0)) ?_; simp (disch := omega) only [*, ↓Ed, Eu, ↓reduceIte, reduceCtorEq, Nat.reduceAdd, Nat.reduceEqDiff, Nat.reduceLT, Nat.reduceLeDiff, Int.reduceToNat, Int.reduceEq, Int.reduceLT, Int.reduceLE, w64, st_nil]) | (refine NewB_intro0 (fun b => ?_); simp only [↓Ed, Eu, ↓reduceIte, reduceCtorEq, Nat.reduceAdd, Nat.reduceEqDiff, Nat.reduceLT, Nat.reduceLeDiff, Int.reduceToNat, Int.reduceEq, Int.reduceLT, Int.reduceLE, w64, st_nil]) | (refine NewB_intro (fun b hb => ?_); simp only [ln_cons2, ln_nil, and_true] at hb; simp (disch := omega) only [*, ↓Ed, Eu, ↓reduceIte, reduceCtorEq, Nat.reduceAdd, Nat.reduceEqDiff, Nat.reduceLT, Nat.reduceLeDiff, Int.reduceToNat, Int.reduceEq, Int.reduceLT, Int.reduceLE, w64, st_nil]) | (with_reducible apply And.intro; (focus (first | omega | (simp only [Fact, Bool.not_eq_true', Bool.not_eq_false', decide_eq_true_eq, decide_eq_false_iff_not] at *; omega))); (try simp (disch := omega) only [*, ↓Ed, Eu, ↓reduceIte, reduceCtorEq, Nat.reduceAdd, Nat.reduceEqDiff, Nat.reduceLT, Nat.reduceLeDiff, Int.reduceToNat, Int.reduceEq, Int.reduceLT, Int.reduceLE, w64, st_nil])) | ((first | refine gW_sp ?_ | refine condW_sp ?_ | refine pickW_sp ?_); (try refine Sp_n ?_); (first | refine Sp_t (by assumption) ?_ | refine Sp_f (by assumption) ?_ | refine Sp_split (fun h => ?_) (fun h => ?_)) <;> (first | have h' := Fact_lt h | have h' := Fact_nlt h | have h' := Fact_le h | have h' := Fact_nle h | skip) <;> (first | (exfalso; omega) | simp (disch := omega) only [*, ↓Ed, Eu, ↓reduceIte, reduceCtorEq, Nat.reduceAdd, Nat.reduceEqDiff, Nat.reduceLT, Nat.reduceLeDiff, Int.reduceToNat, Int.reduceEq, Int.reduceLT, Int.reduceLE, w64, st_nil])) | (show (_ : Nat) ≤ _; omega))
  all_goals simp only [Fact, Bool.not_eq_true', Bool.not_eq_false', decide_eq_true_eq, decide_eq_false_iff_not, st_nil, sgnB] at *
  · refine Round_lit (k + 1) ⟨Le_lit (by simp [LeL, lk]), ⟨by omega, sgn_step h2 h⟩, by omega⟩
  · exact (mayG_bad (by omega) h).symm
  · rw [mayG_end (by omega) h2]; simp [h]
  · rw [mayG_end (by omega) h2]; simp [h]; try omega
theorem u8eq (a b : UInt8) : ((a.toNat : Int) = (b.toNat : Int)) = (a = b) := by
  apply propext
  exact ⟨fun h => UInt8.toNat_inj.1 (by omega), fun h => by rw [h]⟩
theorem u8lit (a : UInt8) (n : Nat) (b : UInt8) (h : b.toNat = n) : ((a.toNat : Int) = (n : Int)) ↔ a = b := by
  rw [← h]; exact iff_of_eq (u8eq a b)
theorem u42 {c : UInt8} : ((c.toNat : Int) = 42) ↔ c = 42 := ⟨fun h => UInt8.toNat_inj.1 (by have : (42 : UInt8).toNat = 42 := rfl; omega), fun h => by rw [h]; rfl⟩
theorem u63 {c : UInt8} : ((c.toNat : Int) = 63) ↔ c = 63 := ⟨fun h => UInt8.toNat_inj.1 (by have : (63 : UInt8).toNat = 63 := rfl; omega), fun h => by rw [h]; rfl⟩
theorem all42 (s : List UInt8) (h : Lib.trimB s 42 = []) : ∀ c ∈ s, c = 42 := (trim_nil s).1 h
set_option maxHeartbeats 4000000 in
theorem p_Match (p s : List UInt8) (hp : p.length ≤ 1000000) (hs : s.length ≤ 1000000) : CP Tryd.prog 11 [.str p, .str s] (.bool (matchP p s)) := by
  refine ok_glob_Match _ _ (by simp) ?_
  simp only [c_glob_Match, ↓Ed, Eu, ↓reduceIte, reduceCtorEq, Nat.reduceAdd, Nat.reduceEqDiff, Nat.reduceLT, Nat.reduceLeDiff, Int.reduceToNat, Int.reduceEq, Int.reduceLT, Int.reduceLE, w64, st_nil]
  repeat' (first | (refine CallO_pure (p_gMay p hp) ?_; simp (disch := omega) only [*, ↓Ed, Eu, ↓reduceIte, reduceCtorEq, Nat.reduceAdd, Nat.reduceEqDiff, Nat.reduceLT, Nat.reduceLeDiff, Int.reduceToNat, Int.reduceEq, Int.reduceLT, Int.reduceLE, w64, st_nil]) | (refine NewB_intro0 (fun b => ?_); simp only [↓Ed, Eu, ↓reduceIte, reduceCtorEq, Nat.reduceAdd, Nat.reduceEqDiff, Nat.reduceLT, Nat.reduceLeDiff, Int.reduceToNat, Int.reduceEq, Int.reduceLT, Int.reduceLE, w64, st_nil]) | (refine NewB_intro (fun b hb => ?_); simp only [ln_cons2, ln_nil, and_true] at hb; simp (disch := omega) only [*, ↓Ed, Eu, ↓reduceIte, reduceCtorEq, Nat.reduceAdd, Nat.reduceEqDiff, Nat.reduceLT, Nat.reduceLeDiff, Int.reduceToNat, Int.reduceEq, Int.reduceLT, Int.reduceLE, w64, st_nil]) | (with_reducible apply And.intro; (focus (first | omega | (simp only [Fact, Bool.not_eq_true', Bool.not_eq_false', decide_eq_true_eq, decide_eq_false_iff_not] at *; omega))); (try simp (disch := omega) only [*, ↓Ed, Eu, ↓reduceIte, reduceCtorEq, Nat.reduceAdd, Nat.reduceEqDiff, Nat.reduceLT, Nat.reduceLeDiff, Int.reduceToNat, Int.reduceEq, Int.reduceLT, Int.reduceLE, w64, st_nil])) | ((first | refine gW_sp ?_ | refine condW_sp ?_ | refine pickW_sp ?_); (try refine Sp_n ?_); (first | refine Sp_t (by assumption) ?_ | refine Sp_f (by assumption) ?_ | refine Sp_split (fun h => ?_) (fun h => ?_)) <;> (first | have h' := Fact_lt h | have h' := Fact_nlt h | have h' := Fact_le h | have h' := Fact_nle h | skip) <;> (first | (exfalso; omega) | simp (disch := omega) only [*, ↓Ed, Eu, ↓reduceIte, reduceCtorEq, Nat.reduceAdd, Nat.reduceEqDiff, Nat.reduceLT, Nat.reduceLeDiff, Int.reduceToNat, Int.reduceEq, Int.reduceLT, Int.reduceLE, w64, st_nil])) | (show (_ : Nat) ≤ _; omega))
  case' refine_2 => simp only [Fact] at h; simp [matchP, h]
  have hm : matchP p s = mt p s := by simp only [Fact] at h; simp [matchP, h]
  have h40 : p.length ≤ 40 := (mayG_iff.1 h).2.1
  rw [hm]
  refine wpx_loop (fun x : Nat × Nat × Nat × Nat => ⟨lk [(0, .str p), (1, .str s), (5, .int .i64 (x.1 : Int)), (6, .int .i64 (x.2.1 : Int)), (7, .int .i64 ((x.2.2.1 : Int) - 1)), (8, .int .i64 (x.2.2.2 : Int))], lk []⟩)
    (fun x => Fact (GI p s x.1 x.2.1 x.2.2.1 x.2.2.2) ∧ x.1 ≤ p.length ∧ x.2.1 ≤ s.length ∧ x.2.2.1 ≤ p.length ∧ x.2.2.2 ≤ s.length) (fun x => (41 - x.2.2.1) * 200000000 + (1000001 - x.2.2.2) * 100 + (41 - x.1)) (0, 0, 0, 0) ⟨gi0 p s, by simp, by simp, by simp, by simp⟩ (Le_lit (by simp [LeL, lk])) ?_
  rintro ⟨i, k, st, fr⟩ ⟨hg, b1, b2, b3, b4⟩
  simp only at hg b1 b2 b3 b4
  simp only [↓Ed, Eu, ↓reduceIte, reduceCtorEq, Nat.reduceAdd, Nat.reduceEqDiff, Nat.reduceLT, Nat.reduceLeDiff, Int.reduceToNat, Int.reduceEq, Int.reduceLT, Int.reduceLE, w64, st_nil]
  repeat' (first | (refine CallO_pure (p_Trim _ (by simp; omega)) ?_; simp (disch := omega) only [*, ↓Ed, Eu, ↓reduceIte, reduceCtorEq, Nat.reduceAdd, Nat.reduceEqDiff, Nat.reduceLT, Nat.reduceLeDiff, Int.reduceToNat, Int.reduceEq, Int.reduceLT, Int.reduceLE, w64, st_nil]) | (refine NewB_intro0 (fun b => ?_); simp only [↓Ed, Eu, ↓reduceIte, reduceCtorEq, Nat.reduceAdd, Nat.reduceEqDiff, Nat.reduceLT, Nat.reduceLeDiff, Int.reduceToNat, Int.reduceEq, Int.reduceLT, Int.reduceLE, w64, st_nil]) | (refine NewB_intro (fun b hb => ?_); simp only [ln_cons2, ln_nil, and_true] at hb; simp (disch := omega) only [*, ↓Ed, Eu, ↓reduceIte, reduceCtorEq, Nat.reduceAdd, Nat.reduceEqDiff, Nat.reduceLT, Nat.reduceLeDiff, Int.reduceToNat, Int.reduceEq, Int.reduceLT, Int.reduceLE, w64, st_nil]) | (with_reducible apply And.intro; (focus (first | omega | (simp only [Fact, Bool.not_eq_true', Bool.not_eq_false', decide_eq_true_eq, decide_eq_false_iff_not] at *; omega))); (try simp (disch := omega) only [*, ↓Ed, Eu, ↓reduceIte, reduceCtorEq, Nat.reduceAdd, Nat.reduceEqDiff, Nat.reduceLT, Nat.reduceLeDiff, Int.reduceToNat, Int.reduceEq, Int.reduceLT, Int.reduceLE, w64, st_nil])) | ((first | refine gW_sp ?_ | refine condW_sp ?_ | refine pickW_sp ?_); (try refine Sp_n ?_); (first | refine Sp_t (by assumption) ?_ | refine Sp_f (by assumption) ?_ | refine Sp_split (fun h => ?_) (fun h => ?_)) <;> (first | have h' := Fact_lt h | have h' := Fact_nlt h | have h' := Fact_le h | have h' := Fact_nle h | skip) <;> (first | (exfalso; omega) | simp (disch := omega) only [*, ↓Ed, Eu, ↓reduceIte, reduceCtorEq, Nat.reduceAdd, Nat.reduceEqDiff, Nat.reduceLT, Nat.reduceLeDiff, Int.reduceToNat, Int.reduceEq, Int.reduceLT, Int.reduceLE, w64, st_nil])) | (show (_ : Nat) ≤ _; omega))
  all_goals (try simp only [Fact, Bool.not_eq_true', Bool.not_eq_false', decide_eq_true_eq, decide_eq_false_iff_not, u42, u63, u8eq] at *)
  · refine Round_lit (i + 1, k, i + 1, k) ⟨Le_lit (by simp [LeL, lk]), ⟨gi_star hg (by omega) h, by simp only; omega, by simp only; omega, by simp only; omega, by simp only; omega⟩, ?_⟩
    obtain ⟨_, _, _, ha, hb⟩ := hg
    have := hb
    simp only
    by_cases h0 : st = 0
    · omega
    · have := hb h0; omega
  · refine Round_lit (i + 1, k + 1, st, fr) ⟨Le_lit (by simp [LeL, lk]), ⟨gi_char hg (by omega) (by omega) (by assumption) (.inl h), by simp only; omega, by simp only; omega, by simp only; omega, by simp only; omega⟩, by simp only; omega⟩
  · refine Round_lit (i + 1, k + 1, st, fr) ⟨Le_lit (by simp [LeL, lk]), ⟨gi_char hg (by omega) (by omega) (by assumption) (.inr h), by simp only; omega, by simp only; omega, by simp only; omega, by simp only; omega⟩, by simp only; omega⟩
  · have hn := no_match (p := p) (s := s) (i := i) (k := k) (by omega) (by rintro ⟨_, g | g | g⟩ <;> contradiction)
    have hk := hg.g (by omega)
    refine Round_lit (st, fr + 1, st, fr + 1) ⟨Le_lit (by simp [LeL, lk]), ⟨gi_back hg (by omega) (by omega) hn, by simp only; omega, by simp only; omega, by simp only; omega, by simp only; omega⟩, by simp only; omega⟩
  · have hn := no_match (p := p) (s := s) (i := i) (k := k) (by omega) (by rintro ⟨_, g | g | g⟩ <;> contradiction)
    obtain rfl : st = 0 := by omega
    exact (gi_none hg hn).symm
  · have hn := no_match (p := p) (s := s) (i := i) (k := k) (by omega) (by rintro ⟨g, _⟩; omega)
    have hk := hg.g (by omega)
    refine Round_lit (st, fr + 1, st, fr + 1) ⟨Le_lit (by simp [LeL, lk]), ⟨gi_back hg (by omega) (by omega) hn, by simp only; omega, by simp only; omega, by simp only; omega, by simp only; omega⟩, by simp only; omega⟩
  · have hn := no_match (p := p) (s := s) (i := i) (k := k) (by omega) (by rintro ⟨g, _⟩; omega)
    obtain rfl : st = 0 := by omega
    exact (gi_none hg hn).symm
  · rw [List.take_length]
    have he := gi_end hg (by omega)
    rw [← trim_nil, ← List.length_eq_zero_iff] at he
    cases hv : mt p s with
    | true => exact decide_eq_true (he.1 hv)
    | false => exact decide_eq_false fun g => by rw [he.2 g] at hv; cases hv
theorem may_ascii {p : List UInt8} (h : mayG p = true) : ∀ (j : Nat) b, p[j]? = some b → b.toNat < 128 := fun j b hb => by
  have hj : j < p.length := by
    by_cases hj : j < p.length
    · exact hj
    · rw [List.getElem?_eq_none (by omega)] at hb; cases hb
  have := (mayG_iff.1 h).2.2 j hj
  simp only [List.getD, hb, Option.getD_some] at this
  unfold sgn at this; omega
/-- No signs. -/
def plainQ (p : List UInt8) : Bool := p.all fun c => !(c == 42 || c == 63)
noncomputable def plainP (p : List UInt8) : Bool := mayG p && plainQ p
theorem contains_any (p : List UInt8) : Lib.containsAny p [42, 63] = !plainQ p := by
  unfold Lib.containsAny plainQ
  induction p with
  | nil => rfl
  | cons c p ih =>
    rw [Lib.indexAny]
    by_cases h : ([42, 63] : List UInt8).contains c = true
    · rw [if_pos h]
      simp at h
      rcases h with e | e <;> simp [e]
    · rw [if_neg h]
      have hge := Lib.indexAny_ge [42, 63] p
      have h' : (c == 42 || c == 63) = false := by simpa using h
      rw [List.all_cons, h', Bool.not_false, Bool.true_and, ← ih]
      by_cases g : Lib.indexAny p [42, 63] = -1
      · rw [g]; simp
      · have : ¬ ((Lib.indexAny p [42, 63] == -1) = true) := by simpa using g
        rw [if_neg this, decide_eq_decide]; omega
theorem p_gPlain (p : List UInt8) (hp : p.length ≤ 1000000) : CP Tryd.prog 13 [.str p] (.bool (plainP p)) := by
  have hc : ∀ (j : Nat) b, ([42, 63] : List UInt8)[j]? = some b → b.toNat < 128 := by
    intro j b h
    match j, h with
    | 0, h => cases h; decide
    | 1, h => cases h; decide
  refine ok_glob_Plain _ _ (by simp) ?_
  simp only [c_glob_Plain, contains_any, ↓Ed, Eu, ↓reduceIte, reduceCtorEq, Nat.reduceAdd, Nat.reduceEqDiff, Nat.reduceLT, Nat.reduceLeDiff, Int.reduceToNat, Int.reduceEq, Int.reduceLT, Int.reduceLE, w64, st_nil]
  by_cases hm : mayG p = true
  · have h1 := p_gMay p hp
    have h2 := p_ContainsAny p [42, 63] hp (by simp) (may_ascii hm) hc
    rw [hm] at h1
    rw [contains_any] at h2
    repeat' (first | (refine CallO_pure (h1) ?_; simp (disch := omega) only [*, ↓Ed, Eu, ↓reduceIte, reduceCtorEq, Nat.reduceAdd, Nat.reduceEqDiff, Nat.reduceLT, Nat.reduceLeDiff, Int.reduceToNat, Int.reduceEq, Int.reduceLT, Int.reduceLE, w64, st_nil]) | (refine CallO_pure (h2) ?_; simp (disch := omega) only [*, ↓Ed, Eu, ↓reduceIte, reduceCtorEq, Nat.reduceAdd, Nat.reduceEqDiff, Nat.reduceLT, Nat.reduceLeDiff, Int.reduceToNat, Int.reduceEq, Int.reduceLT, Int.reduceLE, w64, st_nil]) | (refine NewB_intro0 (fun b => ?_); simp only [↓Ed, Eu, ↓reduceIte, reduceCtorEq, Nat.reduceAdd, Nat.reduceEqDiff, Nat.reduceLT, Nat.reduceLeDiff, Int.reduceToNat, Int.reduceEq, Int.reduceLT, Int.reduceLE, w64, st_nil]) | (refine NewB_intro (fun b hb => ?_); simp only [ln_cons2, ln_nil, and_true] at hb; simp (disch := omega) only [*, ↓Ed, Eu, ↓reduceIte, reduceCtorEq, Nat.reduceAdd, Nat.reduceEqDiff, Nat.reduceLT, Nat.reduceLeDiff, Int.reduceToNat, Int.reduceEq, Int.reduceLT, Int.reduceLE, w64, st_nil]) | (with_reducible apply And.intro; (focus (first | omega | (simp only [Fact, Bool.not_eq_true', Bool.not_eq_false', decide_eq_true_eq, decide_eq_false_iff_not] at *; omega))); (try simp (disch := omega) only [*, ↓Ed, Eu, ↓reduceIte, reduceCtorEq, Nat.reduceAdd, Nat.reduceEqDiff, Nat.reduceLT, Nat.reduceLeDiff, Int.reduceToNat, Int.reduceEq, Int.reduceLT, Int.reduceLE, w64, st_nil])) | ((first | refine gW_sp ?_ | refine condW_sp ?_ | refine pickW_sp ?_); (try refine Sp_n ?_); (first | refine Sp_t (by assumption) ?_ | refine Sp_f (by assumption) ?_ | refine Sp_split (fun h => ?_) (fun h => ?_)) <;> (first | have h' := Fact_lt h | have h' := Fact_nlt h | have h' := Fact_le h | have h' := Fact_nle h | skip) <;> (first | (exfalso; omega) | simp (disch := omega) only [*, ↓Ed, Eu, ↓reduceIte, reduceCtorEq, Nat.reduceAdd, Nat.reduceEqDiff, Nat.reduceLT, Nat.reduceLeDiff, Int.reduceToNat, Int.reduceEq, Int.reduceLT, Int.reduceLE, w64, st_nil])) | (show (_ : Nat) ≤ _; omega))
    simp [plainP, hm]
  · have h1 := p_gMay p hp
    rw [Bool.eq_false_iff.2 hm] at h1
    repeat' (first | (refine CallO_pure (h1) ?_; simp (disch := omega) only [*, ↓Ed, Eu, ↓reduceIte, reduceCtorEq, Nat.reduceAdd, Nat.reduceEqDiff, Nat.reduceLT, Nat.reduceLeDiff, Int.reduceToNat, Int.reduceEq, Int.reduceLT, Int.reduceLE, w64, st_nil]) | (refine NewB_intro0 (fun b => ?_); simp only [↓Ed, Eu, ↓reduceIte, reduceCtorEq, Nat.reduceAdd, Nat.reduceEqDiff, Nat.reduceLT, Nat.reduceLeDiff, Int.reduceToNat, Int.reduceEq, Int.reduceLT, Int.reduceLE, w64, st_nil]) | (refine NewB_intro (fun b hb => ?_); simp only [ln_cons2, ln_nil, and_true] at hb; simp (disch := omega) only [*, ↓Ed, Eu, ↓reduceIte, reduceCtorEq, Nat.reduceAdd, Nat.reduceEqDiff, Nat.reduceLT, Nat.reduceLeDiff, Int.reduceToNat, Int.reduceEq, Int.reduceLT, Int.reduceLE, w64, st_nil]) | (with_reducible apply And.intro; (focus (first | omega | (simp only [Fact, Bool.not_eq_true', Bool.not_eq_false', decide_eq_true_eq, decide_eq_false_iff_not] at *; omega))); (try simp (disch := omega) only [*, ↓Ed, Eu, ↓reduceIte, reduceCtorEq, Nat.reduceAdd, Nat.reduceEqDiff, Nat.reduceLT, Nat.reduceLeDiff, Int.reduceToNat, Int.reduceEq, Int.reduceLT, Int.reduceLE, w64, st_nil])) | ((first | refine gW_sp ?_ | refine condW_sp ?_ | refine pickW_sp ?_); (try refine Sp_n ?_); (first | refine Sp_t (by assumption) ?_ | refine Sp_f (by assumption) ?_ | refine Sp_split (fun h => ?_) (fun h => ?_)) <;> (first | have h' := Fact_lt h | have h' := Fact_nlt h | have h' := Fact_le h | have h' := Fact_nle h | skip) <;> (first | (exfalso; omega) | simp (disch := omega) only [*, ↓Ed, Eu, ↓reduceIte, reduceCtorEq, Nat.reduceAdd, Nat.reduceEqDiff, Nat.reduceLT, Nat.reduceLeDiff, Int.reduceToNat, Int.reduceEq, Int.reduceLT, Int.reduceLE, w64, st_nil])) | (show (_ : Nat) ≤ _; omega))
    simp [plainP, hm]
end Go.Proofs.YtedcagoilpaafaaDoor
