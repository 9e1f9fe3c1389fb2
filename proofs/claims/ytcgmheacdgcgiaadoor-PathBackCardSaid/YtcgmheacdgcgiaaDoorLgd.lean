/- chapter 3: the law PathBack -/
import Derived.Test.YtcgmheacdgcgiaaDoorLga
import Derived.Test.YtcgmheacdgcgiaaDoorPag
namespace Go.Proofs.YtcgmheacdgcgiaaDoor
set_option linter.all false
open Go.RowKit
set_option maxRecDepth 100000
theorem text_len' (p : List UInt8) (c : Int) : (textP p c).length ≤ 24 := by
  unfold textP
  split
  · rename_i h
    have h1 := mayP_t h
    have h2 := dig_len3 ⟨h1.2.1, h1.2.2.1⟩
    simp only [List.length_append, List.length_cons, List.length_nil]; omega
  · simp
theorem text_len (p : List UInt8) (c : Int) : (textP p c).length ≤ 1000000 := Nat.le_trans (text_len' p c) (by omega)
theorem of_len' (k : Int) (p : List UInt8) (c q : Int) : (ofP k p c q).length ≤ 160 := by
  rcases @ofP_q k p c q with h | h
  · rw [h]; simp
  · have hw := wordP_len k
    generalize ofP k p c q = s at h
    cases h with
    | num hk hp hc hq =>
      have h3 := dig_len3 hc
      have h13 := dig_len13 (c := q) (by omega)
      have := hp.2.1
      simp only [List.length_append, List.length_cons, List.length_nil]; omega
    | base hk hp hc =>
      have h3 := dig_len3 hc
      have := hp.2.1
      simp only [List.length_append, List.length_cons, List.length_nil]; omega
theorem of_len (k : Int) (p : List UInt8) (c q : Int) : (ofP k p c q).length ≤ 1000000 := Nat.le_trans (of_len' k p c q) (by omega)
theorem cut_app {p x : List UInt8} (hp : 47 ∉ p) : Lib.cut (p ++ 47 :: x) [47] = (p, x, true) := by
  have h := cut_at (s := p ++ 47 :: x) (k := p.length) (by simp) (by simp [List.getD]) (fun j hj e => by
    rw [getD_app _ _ _ _ hj, List.getD, List.getElem?_eq_getElem hj] at e
    exact hp (by rw [← show p[j] = 47 from e]; exact List.getElem_mem hj))
  rw [h]
  simp [List.drop_append]
theorem parse_text {p : List UInt8} {c : Int} (h : mayP p c = true) : parseP (textP p c) = (p, c, 0) := by
  have h1 := mayP_t h
  have h2 := end_of h1.2.2.2 ⟨h1.2.1, h1.2.2.1⟩
  have e : textP p c = p ++ 47 :: (chn ++ Lib.itoa c) := by unfold textP; rw [if_pos h]; simp
  unfold parseP
  rw [e, cut_app (name_no h1.2.2.2)]
  rw [if_pos h2.2, h2.1]
theorem text_zero (p : List UInt8) (c : Int) : mayP p c = !decide ((textP p c).length = 0) := by
  unfold textP
  cases h : mayP p c <;> simp
theorem of_back {k : Int} {p : List UInt8} {c q : Int} (h : ¬ (ofP k p c q).length = 0) : readP (ofP k p c q) = (k, p, c, q, 0) ∧ mayP p c = true := by
  have := (@ofP_q k p c q).resolve_left (fun e => h (by rw [e]; rfl))
  refine ⟨readP_of this, ?_⟩
  unfold ofP at h
  by_cases hm : mayP p c = true
  · exact hm
  · rw [if_pos (.inr hm)] at h; exact absurd rfl h
theorem p_PathBack (k : Int) (p : List UInt8) (c q : Int) : CP Tryd.prog 7 [.int .i64 k, .agg [.str p, .int .i64 c], .int .i64 q] (.bool true) := by
  refine ok_liglaw3_PathBack _ _ (by simp) ?_
  simp only [c_liglaw3_PathBack, ↓Ed, Eu, ↓reduceIte, reduceCtorEq, Nat.reduceAdd, Nat.reduceEqDiff, Nat.reduceLT, Nat.reduceLeDiff, Int.reduceToNat, Int.reduceEq, Int.reduceLT, Int.reduceLE, w64, st_nil, List.length_append, Nat.reduceMul]
  repeat' (first | (refine CallO_pure (p_first) ?_; simp (disch := omega) only [*, ↓Ed, Eu, ↓reduceIte, reduceCtorEq, Nat.reduceAdd, Nat.reduceEqDiff, Nat.reduceLT, Nat.reduceLeDiff, Int.reduceToNat, Int.reduceEq, Int.reduceLT, Int.reduceLE, w64, st_nil, List.length_append, Nat.reduceMul]) | (refine CallW_intro (p_Of k p c q (by simp only [Fact, Bool.not_eq_true', Bool.not_eq_false', decide_eq_true_eq, decide_eq_false_iff_not] at *; omega)) ?_; simp (disch := omega) only [*, ↓Ed, Eu, ↓reduceIte, reduceCtorEq, Nat.reduceAdd, Nat.reduceEqDiff, Nat.reduceLT, Nat.reduceLeDiff, Int.reduceToNat, Int.reduceEq, Int.reduceLT, Int.reduceLE, w64, st_nil, List.length_append, Nat.reduceMul]) | (refine CallW_intro (p_Text p c (by simp only [Fact, Bool.not_eq_true', Bool.not_eq_false', decide_eq_true_eq, decide_eq_false_iff_not] at *; omega)) ?_; simp (disch := omega) only [*, ↓Ed, Eu, ↓reduceIte, reduceCtorEq, Nat.reduceAdd, Nat.reduceEqDiff, Nat.reduceLT, Nat.reduceLeDiff, Int.reduceToNat, Int.reduceEq, Int.reduceLT, Int.reduceLE, w64, st_nil, List.length_append, Nat.reduceMul]) | (refine CallO_pure (p_Parse _ (text_len _ _)) ?_; simp (disch := omega) only [*, ↓Ed, Eu, ↓reduceIte, reduceCtorEq, Nat.reduceAdd, Nat.reduceEqDiff, Nat.reduceLT, Nat.reduceLeDiff, Int.reduceToNat, Int.reduceEq, Int.reduceLT, Int.reduceLE, w64, st_nil, List.length_append, Nat.reduceMul]) | (refine CallO_pure (p_pMay p c (by simp only [Fact, Bool.not_eq_true', Bool.not_eq_false', decide_eq_true_eq, decide_eq_false_iff_not] at *; omega)) ?_; simp (disch := omega) only [*, ↓Ed, Eu, ↓reduceIte, reduceCtorEq, Nat.reduceAdd, Nat.reduceEqDiff, Nat.reduceLT, Nat.reduceLeDiff, Int.reduceToNat, Int.reduceEq, Int.reduceLT, Int.reduceLE, w64, st_nil, List.length_append, Nat.reduceMul]) | (refine CallO_pure (p_Read _ (of_len _ _ _ _)) ?_; simp (disch := omega) only [*, ↓Ed, Eu, ↓reduceIte, reduceCtorEq, Nat.reduceAdd, Nat.reduceEqDiff, Nat.reduceLT, Nat.reduceLeDiff, Int.reduceToNat, Int.reduceEq, Int.reduceLT, Int.reduceLE, w64, st_nil, List.length_append, Nat.reduceMul]) | (refine NewB_intro0 (fun b => ?_); simp only [↓Ed, Eu, ↓reduceIte, reduceCtorEq, Nat.reduceAdd, Nat.reduceEqDiff, Nat.reduceLT, Nat.reduceLeDiff, Int.reduceToNat, Int.reduceEq, Int.reduceLT, Int.reduceLE, w64, st_nil, List.length_append, Nat.reduceMul]) | (refine NewB_intro (fun b hb => ?_); simp only [ln_cons2, ln_nil, and_true] at hb; simp (disch := omega) only [*, ↓Ed, Eu, ↓reduceIte, reduceCtorEq, Nat.reduceAdd, Nat.reduceEqDiff, Nat.reduceLT, Nat.reduceLeDiff, Int.reduceToNat, Int.reduceEq, Int.reduceLT, Int.reduceLE, w64, st_nil, List.length_append, Nat.reduceMul]) | (with_reducible apply And.intro; (focus (first | omega | (simp only [Fact, Bool.not_eq_true', Bool.not_eq_false', decide_eq_true_eq, decide_eq_false_iff_not] at *; omega))); (try simp (disch := omega) only [*, ↓Ed, Eu, ↓reduceIte, reduceCtorEq, Nat.reduceAdd, Nat.reduceEqDiff, Nat.reduceLT, Nat.reduceLeDiff, Int.reduceToNat, Int.reduceEq, Int.reduceLT, Int.reduceLE, w64, st_nil, List.length_append, Nat.reduceMul])) | ((first | refine gW_sp ?_ | refine condW_sp ?_ | refine pickW_sp ?_); (try refine Sp_n ?_); (first | refine Sp_t (by assumption) ?_ | refine Sp_f (by assumption) ?_ | refine Sp_split (fun h => ?_) (fun h => ?_)) <;> (first | have h' := Fact_lt h | have h' := Fact_nlt h | have h' := Fact_le h | have h' := Fact_nle h | skip) <;> (first | (exfalso; omega) | simp (disch := omega) only [*, ↓Ed, Eu, ↓reduceIte, reduceCtorEq, Nat.reduceAdd, Nat.reduceEqDiff, Nat.reduceLT, Nat.reduceLeDiff, Int.reduceToNat, Int.reduceEq, Int.reduceLT, Int.reduceLE, w64, st_nil, List.length_append, Nat.reduceMul])) | (show (_ : Nat) ≤ _; omega))
  all_goals (try simp only [Fact, Bool.not_eq_true', Bool.not_eq_false', decide_eq_true_eq, decide_eq_false_iff_not] at *)
  all_goals
    have f1 := text_zero p c
    have f2 := @parse_text p c
    have f3 := @of_back k p c q
    have f4 := of_len' k p c q
    first
      | (simp_all; done)
      | (simp_all; omega)
      | skip
end Go.Proofs.YtcgmheacdgcgiaaDoor
