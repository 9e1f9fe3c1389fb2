/- chapter 3: the chapter's examples -/
import Derived.Test.YtcgmheacdgcgiaaDoorPad
namespace Go.Proofs.YtcgmheacdgcgiaaDoor
set_option linter.all false
open Go.RowKit
set_option maxRecDepth 100000
abbrev trf : List UInt8 := [116, 114, 97, 110, 115, 102, 101, 114]
theorem mayP_trf : mayP trf 7 = true := by
  have h : nameQ trf := by unfold nameQ okAt; decide
  simp [mayP, nameP_iff.2 h]
theorem itoa7 : Lib.itoa 7 = [55] := by rw [itoa_dig (by omega)]; exact dig_lo (by decide)
theorem itoa12 : Lib.itoa 12 = [49, 50] := by rw [itoa_dig (by omega), show (12 : Int).toNat = 12 by rfl, dig_hi (by decide), dig_lo (by decide)]; rfl
theorem text_trf : textP [116, 114, 97, 110, 115, 102, 101, 114] 7 = [116, 114, 97, 110, 115, 102, 101, 114, 47, 99, 104, 97, 110, 110, 101, 108, 45, 55] := by
  unfold textP
  rw [if_pos mayP_trf, itoa7]; rfl
theorem num007 : numP [48, 48, 55] = (0, 3) := by decide
theorem parse_trf : parseP [116, 114, 97, 110, 115, 102, 101, 114, 47, 99, 104, 97, 110, 110, 101, 108, 45, 55] = ([116, 114, 97, 110, 115, 102, 101, 114], 7, 0) := by
  have h1 : Lib.cut [116, 114, 97, 110, 115, 102, 101, 114, 47, 99, 104, 97, 110, 110, 101, 108, 45, 55] [47] = ([116, 114, 97, 110, 115, 102, 101, 114], [99, 104, 97, 110, 110, 101, 108, 45, 55], true) := by decide
  have h2 : endN [99, 104, 97, 110, 110, 101, 108, 45, 55] = 7 := by decide
  have h3 : endOk [99, 104, 97, 110, 110, 101, 108, 45, 55] = true := by decide
  unfold parseP
  simp only [h1, endP, h2, h3, mayP_trf, Bool.and_self, if_true]
theorem of_trf : ofP 2 [116, 114, 97, 110, 115, 102, 101, 114] 7 12 = [114, 101, 99, 101, 105, 112, 116, 115, 47, 112, 111, 114, 116, 115, 47, 116, 114, 97, 110, 115, 102, 101, 114, 47, 99, 104, 97, 110, 110, 101, 108, 115, 47, 99, 104, 97, 110, 110, 101, 108, 45, 55, 47, 115, 101, 113, 117, 101, 110, 99, 101, 115, 47, 49, 50] := by
  unfold ofP
  rw [if_neg (by rw [show mayP _ _ = true from mayP_trf]; simp [wordP]), if_pos (by omega), if_pos (by omega)]
  unfold baseP
  rw [itoa7, itoa12]
  rfl
theorem p_first : CP Tryd.prog 8 [] (.bool true) := by
  refine ok_liglaw3_first _ _ (by simp) ?_
  simp only [c_liglaw3_first, ↓Ed, Eu, ↓reduceIte, reduceCtorEq, Nat.reduceAdd, Nat.reduceEqDiff, Nat.reduceLT, Nat.reduceLeDiff, Int.reduceToNat, Int.reduceEq, Int.reduceLT, Int.reduceLE, w64, st_nil, List.length_append, Nat.reduceMul]
  repeat' (first | (refine CallO_pure (p_Parse _ (by decide)) ?_; simp (disch := omega) only [*, ↓Ed, Eu, ↓reduceIte, reduceCtorEq, Nat.reduceAdd, Nat.reduceEqDiff, Nat.reduceLT, Nat.reduceLeDiff, Int.reduceToNat, Int.reduceEq, Int.reduceLT, Int.reduceLE, w64, st_nil, List.length_append, Nat.reduceMul]) | (refine CallO_pure (p_Number _ (by decide)) ?_; simp (disch := omega) only [*, ↓Ed, Eu, ↓reduceIte, reduceCtorEq, Nat.reduceAdd, Nat.reduceEqDiff, Nat.reduceLT, Nat.reduceLeDiff, Int.reduceToNat, Int.reduceEq, Int.reduceLT, Int.reduceLE, w64, st_nil, List.length_append, Nat.reduceMul]) | (refine CallO_pure (p_Text _ _ (by decide)) ?_; simp (disch := omega) only [*, ↓Ed, Eu, ↓reduceIte, reduceCtorEq, Nat.reduceAdd, Nat.reduceEqDiff, Nat.reduceLT, Nat.reduceLeDiff, Int.reduceToNat, Int.reduceEq, Int.reduceLT, Int.reduceLE, w64, st_nil, List.length_append, Nat.reduceMul]) | (refine CallO_pure (p_Of _ _ _ _ (by decide)) ?_; simp (disch := omega) only [*, ↓Ed, Eu, ↓reduceIte, reduceCtorEq, Nat.reduceAdd, Nat.reduceEqDiff, Nat.reduceLT, Nat.reduceLeDiff, Int.reduceToNat, Int.reduceEq, Int.reduceLT, Int.reduceLE, w64, st_nil, List.length_append, Nat.reduceMul]) | (refine NewB_intro0 (fun b => ?_); simp only [↓Ed, Eu, ↓reduceIte, reduceCtorEq, Nat.reduceAdd, Nat.reduceEqDiff, Nat.reduceLT, Nat.reduceLeDiff, Int.reduceToNat, Int.reduceEq, Int.reduceLT, Int.reduceLE, w64, st_nil, List.length_append, Nat.reduceMul]) | (refine NewB_intro (fun b hb => ?_); simp only [ln_cons2, ln_nil, and_true] at hb; simp (disch := omega) only [*, ↓Ed, Eu, ↓reduceIte, reduceCtorEq, Nat.reduceAdd, Nat.reduceEqDiff, Nat.reduceLT, Nat.reduceLeDiff, Int.reduceToNat, Int.reduceEq, Int.reduceLT, Int.reduceLE, w64, st_nil, List.length_append, Nat.reduceMul]) | (with_reducible apply And.intro; (focus (first | omega | (simp only [Fact, Bool.not_eq_true', Bool.not_eq_false', decide_eq_true_eq, decide_eq_false_iff_not] at *; omega))); (try simp (disch := omega) only [*, ↓Ed, Eu, ↓reduceIte, reduceCtorEq, Nat.reduceAdd, Nat.reduceEqDiff, Nat.reduceLT, Nat.reduceLeDiff, Int.reduceToNat, Int.reduceEq, Int.reduceLT, Int.reduceLE, w64, st_nil, List.length_append, Nat.reduceMul])) | ((first | refine gW_sp ?_ | refine condW_sp ?_ | refine pickW_sp ?_); (try refine Sp_n ?_); (first | refine Sp_t (by assumption) ?_ | refine Sp_f (by assumption) ?_ | refine Sp_split (fun h => ?_) (fun h => ?_)) <;> (first | have h' := Fact_lt h | have h' := Fact_nlt h | have h' := Fact_le h | have h' := Fact_nle h | skip) <;> (first | (exfalso; omega) | simp (disch := omega) only [*, ↓Ed, Eu, ↓reduceIte, reduceCtorEq, Nat.reduceAdd, Nat.reduceEqDiff, Nat.reduceLT, Nat.reduceLeDiff, Int.reduceToNat, Int.reduceEq, Int.reduceLT, Int.reduceLE, w64, st_nil, List.length_append, Nat.reduceMul])) | (show (_ : Nat) ≤ _; omega))
  all_goals (try simp only [Fact, Bool.not_eq_true', Bool.not_eq_false', decide_eq_true_eq, decide_eq_false_iff_not] at *)
  all_goals simp_all [parse_trf, num007, text_trf, of_trf]
end Go.Proofs.YtcgmheacdgcgiaaDoor
