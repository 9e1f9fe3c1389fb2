import Derived.Test.YtbjmcmgekcmbpaaGreatDoorK18
import Derived.Test.YtbjmcmgekcmbpaaGreatDoorK14
/- chapter 21: which configurations may be, the program's -/
namespace Go.Proofs.YtbjmcmgekcmbpaaGreatDoor
set_option linter.all false
open Go.RowKit
set_option maxRecDepth 100000
theorem takeP (l : List PathC) (k : Nat) : (pths l).take k = pths (l.take k) := (List.map_take ..).symm
set_option maxHeartbeats 8000000 in
theorem p_cMay (c : Conf) (p1 r1 : AV) (h1 : p1.alias = .sl none 5 (pths c.ps)) (h2 : r1.alias = .sl none 2 (rls c.rs)) (l1 : c.ps.length ≤ maxLen) (l2 : c.rs.length ≤ maxLen)
    (sa : c.a.length ≤ 1000000) (sb : c.b.length ≤ 1000000) (sp : ∀ i, (c.ps.getD i default).ap.length ≤ 1000000 ∧ (c.ps.getD i default).bp.length ≤ 1000000) (sr : ∀ i, (c.rs.getD i default).pt.length ≤ 1000000) :
    CP Tryz.prog 8 [.agg (cfX c p1 r1)] (.bool (confMay c)) := by
  have hm : maxLen = 9223372036854775807 := rfl
  refine ok_conf_May _ _ (by simp) ?_
  have n1 := p_Name c.a (by omega)
  have n2 := p_Name c.b (by omega)
  have m1 := p_limited c.la
  have m2 := p_limited c.lb
  have m3 := p_spaced c.iv
  cases e1 : nameP c.a with
  | false =>
    rw [confMay_f fun g => by rw [g.1] at e1; cases e1]
    rw [e1] at n1
    clear e1
    simp only [c_conf_May, ↓Ed, Eu, ↓reduceIte, reduceCtorEq, Nat.reduceAdd, Nat.reduceEqDiff, Nat.reduceLT, Nat.reduceLeDiff, Int.reduceToNat, Int.reduceEq, Int.reduceLT, Int.reduceLE, takeP, List.drop_zero, Int.toNat_natCast, al_so, al_al, al_pc, al_rc, al_pst, al_rst, w64, List.length_append, List.length_map, Nat.mul_one, beq_self_eq_true, Lim.cs, PathC.cs, RuleC.cs, gdP, gdR]
    repeat' ((first | refine CallO_pure (n1) ?_ | refine NewB_intro0 (fun b => ?_) | (refine NewB_intro (fun b hb => ?_); simp only [ln_cons2, ln_nil, and_true] at hb) | (with_reducible apply And.intro; (focus (first | omega | (simp only [Fact, Bool.not_eq_true', Bool.not_eq_false', decide_eq_true_eq, decide_eq_false_iff_not] at *; omega)))) | ((first | refine gW_sp ?_ | refine condW_sp ?_ | refine pickW_sp ?_); (try refine Sp_n ?_); (first | refine Sp_t (by assumption) ?_ | refine Sp_f (by assumption) ?_ | refine Sp_split (fun h => ?_) (fun h => ?_)) <;> (first | have h' := Fact_lt h | have h' := Fact_nlt h | have h' := Fact_le h | have h' := Fact_nle h | skip) <;> (try (exfalso; omega))) | refine TreeW_intro (by rfl) ?_ | refine TreeW_all ?_ | refine upQ_intro ?_ | refine Two_intro ?_ ?_ | (refine leK_lit ?_; (simp [-List.getD_eq_getElem?_getD, LeL, lk, *]; done)) | (refine leK_dd ?_; (simp [-List.getD_eq_getElem?_getD, LeS, LeL, lk, *]; done)) | (simp only [Fact, Bool.not_eq_true', Bool.not_eq_false', decide_eq_true_eq, decide_eq_false_iff_not] at *; refine leK_dd ?_; (simp [-List.getD_eq_getElem?_getD, LeS, LeL, lk, *]; done)) | (show (_ : Nat) ≤ _; omega)) <;> (try simp (disch := omega) only [*, ↓Ed, Eu, ↓reduceIte, reduceCtorEq, Nat.reduceAdd, Nat.reduceEqDiff, Nat.reduceLT, Nat.reduceLeDiff, Int.reduceToNat, Int.reduceEq, Int.reduceLT, Int.reduceLE, takeP, List.drop_zero, Int.toNat_natCast, al_so, al_al, al_pc, al_rc, al_pst, al_rst, w64, List.length_append, List.length_map, Nat.mul_one, beq_self_eq_true, Lim.cs, PathC.cs, RuleC.cs, gdP, gdR]))
  | true =>
  cases e2 : nameP c.b with
  | false =>
    rw [confMay_f fun g => by rw [g.2.1] at e2; cases e2]
    rw [e1] at n1
    rw [e2] at n2
    clear e1 e2
    simp only [c_conf_May, ↓Ed, Eu, ↓reduceIte, reduceCtorEq, Nat.reduceAdd, Nat.reduceEqDiff, Nat.reduceLT, Nat.reduceLeDiff, Int.reduceToNat, Int.reduceEq, Int.reduceLT, Int.reduceLE, takeP, List.drop_zero, Int.toNat_natCast, al_so, al_al, al_pc, al_rc, al_pst, al_rst, w64, List.length_append, List.length_map, Nat.mul_one, beq_self_eq_true, Lim.cs, PathC.cs, RuleC.cs, gdP, gdR]
    repeat' ((first | refine CallO_pure (n1) ?_ | refine CallO_pure (n2) ?_ | refine NewB_intro0 (fun b => ?_) | (refine NewB_intro (fun b hb => ?_); simp only [ln_cons2, ln_nil, and_true] at hb) | (with_reducible apply And.intro; (focus (first | omega | (simp only [Fact, Bool.not_eq_true', Bool.not_eq_false', decide_eq_true_eq, decide_eq_false_iff_not] at *; omega)))) | ((first | refine gW_sp ?_ | refine condW_sp ?_ | refine pickW_sp ?_); (try refine Sp_n ?_); (first | refine Sp_t (by assumption) ?_ | refine Sp_f (by assumption) ?_ | refine Sp_split (fun h => ?_) (fun h => ?_)) <;> (first | have h' := Fact_lt h | have h' := Fact_nlt h | have h' := Fact_le h | have h' := Fact_nle h | skip) <;> (try (exfalso; omega))) | refine TreeW_intro (by rfl) ?_ | refine TreeW_all ?_ | refine upQ_intro ?_ | refine Two_intro ?_ ?_ | (refine leK_lit ?_; (simp [-List.getD_eq_getElem?_getD, LeL, lk, *]; done)) | (refine leK_dd ?_; (simp [-List.getD_eq_getElem?_getD, LeS, LeL, lk, *]; done)) | (simp only [Fact, Bool.not_eq_true', Bool.not_eq_false', decide_eq_true_eq, decide_eq_false_iff_not] at *; refine leK_dd ?_; (simp [-List.getD_eq_getElem?_getD, LeS, LeL, lk, *]; done)) | (show (_ : Nat) ≤ _; omega)) <;> (try simp (disch := omega) only [*, ↓Ed, Eu, ↓reduceIte, reduceCtorEq, Nat.reduceAdd, Nat.reduceEqDiff, Nat.reduceLT, Nat.reduceLeDiff, Int.reduceToNat, Int.reduceEq, Int.reduceLT, Int.reduceLE, takeP, List.drop_zero, Int.toNat_natCast, al_so, al_al, al_pc, al_rc, al_pst, al_rst, w64, List.length_append, List.length_map, Nat.mul_one, beq_self_eq_true, Lim.cs, PathC.cs, RuleC.cs, gdP, gdR]))
  | true =>
  rw [e1] at n1
  rw [e2] at n2
  by_cases e3 : c.a = c.b
  · rw [confMay_f fun g => g.2.2.1 e3]
    have f3 : Fact (decide (c.a = c.b) = true) := decide_eq_true e3
    clear e1 e2 e3
    simp only [c_conf_May, ↓Ed, Eu, ↓reduceIte, reduceCtorEq, Nat.reduceAdd, Nat.reduceEqDiff, Nat.reduceLT, Nat.reduceLeDiff, Int.reduceToNat, Int.reduceEq, Int.reduceLT, Int.reduceLE, takeP, List.drop_zero, Int.toNat_natCast, al_so, al_al, al_pc, al_rc, al_pst, al_rst, w64, List.length_append, List.length_map, Nat.mul_one, beq_self_eq_true, Lim.cs, PathC.cs, RuleC.cs, gdP, gdR]
    repeat' ((first | refine CallO_pure (n1) ?_ | refine CallO_pure (n2) ?_ | refine NewB_intro0 (fun b => ?_) | (refine NewB_intro (fun b hb => ?_); simp only [ln_cons2, ln_nil, and_true] at hb) | (with_reducible apply And.intro; (focus (first | omega | (simp only [Fact, Bool.not_eq_true', Bool.not_eq_false', decide_eq_true_eq, decide_eq_false_iff_not] at *; omega)))) | ((first | refine gW_sp ?_ | refine condW_sp ?_ | refine pickW_sp ?_); (try refine Sp_n ?_); (first | refine Sp_t (by assumption) ?_ | refine Sp_f (by assumption) ?_ | refine Sp_split (fun h => ?_) (fun h => ?_)) <;> (first | have h' := Fact_lt h | have h' := Fact_nlt h | have h' := Fact_le h | have h' := Fact_nle h | skip) <;> (try (exfalso; omega))) | refine TreeW_intro (by rfl) ?_ | refine TreeW_all ?_ | refine upQ_intro ?_ | refine Two_intro ?_ ?_ | (refine leK_lit ?_; (simp [-List.getD_eq_getElem?_getD, LeL, lk, *]; done)) | (refine leK_dd ?_; (simp [-List.getD_eq_getElem?_getD, LeS, LeL, lk, *]; done)) | (simp only [Fact, Bool.not_eq_true', Bool.not_eq_false', decide_eq_true_eq, decide_eq_false_iff_not] at *; refine leK_dd ?_; (simp [-List.getD_eq_getElem?_getD, LeS, LeL, lk, *]; done)) | (show (_ : Nat) ≤ _; omega)) <;> (try simp (disch := omega) only [*, ↓Ed, Eu, ↓reduceIte, reduceCtorEq, Nat.reduceAdd, Nat.reduceEqDiff, Nat.reduceLT, Nat.reduceLeDiff, Int.reduceToNat, Int.reduceEq, Int.reduceLT, Int.reduceLE, takeP, List.drop_zero, Int.toNat_natCast, al_so, al_al, al_pc, al_rc, al_pst, al_rst, w64, List.length_append, List.length_map, Nat.mul_one, beq_self_eq_true, Lim.cs, PathC.cs, RuleC.cs, gdP, gdR]))
  have f3 : Fact (decide (c.a = c.b) = false) := decide_eq_false e3
  by_cases e4 : limQ c.la
  rotate_left
  · rw [confMay_f fun g => e4 g.2.2.2.1]
    rw [decide_eq_false e4] at m1
    clear e1 e2 e3 e4
    simp only [c_conf_May, ↓Ed, Eu, ↓reduceIte, reduceCtorEq, Nat.reduceAdd, Nat.reduceEqDiff, Nat.reduceLT, Nat.reduceLeDiff, Int.reduceToNat, Int.reduceEq, Int.reduceLT, Int.reduceLE, takeP, List.drop_zero, Int.toNat_natCast, al_so, al_al, al_pc, al_rc, al_pst, al_rst, w64, List.length_append, List.length_map, Nat.mul_one, beq_self_eq_true, Lim.cs, PathC.cs, RuleC.cs, gdP, gdR]
    repeat' ((first | refine CallO_pure (n1) ?_ | refine CallO_pure (n2) ?_ | refine CallO_pure (m1) ?_ | refine NewB_intro0 (fun b => ?_) | (refine NewB_intro (fun b hb => ?_); simp only [ln_cons2, ln_nil, and_true] at hb) | (with_reducible apply And.intro; (focus (first | omega | (simp only [Fact, Bool.not_eq_true', Bool.not_eq_false', decide_eq_true_eq, decide_eq_false_iff_not] at *; omega)))) | ((first | refine gW_sp ?_ | refine condW_sp ?_ | refine pickW_sp ?_); (try refine Sp_n ?_); (first | refine Sp_t (by assumption) ?_ | refine Sp_f (by assumption) ?_ | refine Sp_split (fun h => ?_) (fun h => ?_)) <;> (first | have h' := Fact_lt h | have h' := Fact_nlt h | have h' := Fact_le h | have h' := Fact_nle h | skip) <;> (try (exfalso; omega))) | refine TreeW_intro (by rfl) ?_ | refine TreeW_all ?_ | refine upQ_intro ?_ | refine Two_intro ?_ ?_ | (refine leK_lit ?_; (simp [-List.getD_eq_getElem?_getD, LeL, lk, *]; done)) | (refine leK_dd ?_; (simp [-List.getD_eq_getElem?_getD, LeS, LeL, lk, *]; done)) | (simp only [Fact, Bool.not_eq_true', Bool.not_eq_false', decide_eq_true_eq, decide_eq_false_iff_not] at *; refine leK_dd ?_; (simp [-List.getD_eq_getElem?_getD, LeS, LeL, lk, *]; done)) | (show (_ : Nat) ≤ _; omega)) <;> (try simp (disch := omega) only [*, ↓Ed, Eu, ↓reduceIte, reduceCtorEq, Nat.reduceAdd, Nat.reduceEqDiff, Nat.reduceLT, Nat.reduceLeDiff, Int.reduceToNat, Int.reduceEq, Int.reduceLT, Int.reduceLE, takeP, List.drop_zero, Int.toNat_natCast, al_so, al_al, al_pc, al_rc, al_pst, al_rst, w64, List.length_append, List.length_map, Nat.mul_one, beq_self_eq_true, Lim.cs, PathC.cs, RuleC.cs, gdP, gdR]))
  rw [decide_eq_true e4] at m1
  by_cases e5 : limQ c.lb
  rotate_left
  · rw [confMay_f fun g => e5 g.2.2.2.2.1]
    rw [decide_eq_false e5] at m2
    clear e1 e2 e3 e4 e5
    simp only [c_conf_May, ↓Ed, Eu, ↓reduceIte, reduceCtorEq, Nat.reduceAdd, Nat.reduceEqDiff, Nat.reduceLT, Nat.reduceLeDiff, Int.reduceToNat, Int.reduceEq, Int.reduceLT, Int.reduceLE, takeP, List.drop_zero, Int.toNat_natCast, al_so, al_al, al_pc, al_rc, al_pst, al_rst, w64, List.length_append, List.length_map, Nat.mul_one, beq_self_eq_true, Lim.cs, PathC.cs, RuleC.cs, gdP, gdR]
    repeat' ((first | refine CallO_pure (n1) ?_ | refine CallO_pure (n2) ?_ | refine CallO_pure (m1) ?_ | refine CallO_pure (m2) ?_ | refine NewB_intro0 (fun b => ?_) | (refine NewB_intro (fun b hb => ?_); simp only [ln_cons2, ln_nil, and_true] at hb) | (with_reducible apply And.intro; (focus (first | omega | (simp only [Fact, Bool.not_eq_true', Bool.not_eq_false', decide_eq_true_eq, decide_eq_false_iff_not] at *; omega)))) | ((first | refine gW_sp ?_ | refine condW_sp ?_ | refine pickW_sp ?_); (try refine Sp_n ?_); (first | refine Sp_t (by assumption) ?_ | refine Sp_f (by assumption) ?_ | refine Sp_split (fun h => ?_) (fun h => ?_)) <;> (first | have h' := Fact_lt h | have h' := Fact_nlt h | have h' := Fact_le h | have h' := Fact_nle h | skip) <;> (try (exfalso; omega))) | refine TreeW_intro (by rfl) ?_ | refine TreeW_all ?_ | refine upQ_intro ?_ | refine Two_intro ?_ ?_ | (refine leK_lit ?_; (simp [-List.getD_eq_getElem?_getD, LeL, lk, *]; done)) | (refine leK_dd ?_; (simp [-List.getD_eq_getElem?_getD, LeS, LeL, lk, *]; done)) | (simp only [Fact, Bool.not_eq_true', Bool.not_eq_false', decide_eq_true_eq, decide_eq_false_iff_not] at *; refine leK_dd ?_; (simp [-List.getD_eq_getElem?_getD, LeS, LeL, lk, *]; done)) | (show (_ : Nat) ≤ _; omega)) <;> (try simp (disch := omega) only [*, ↓Ed, Eu, ↓reduceIte, reduceCtorEq, Nat.reduceAdd, Nat.reduceEqDiff, Nat.reduceLT, Nat.reduceLeDiff, Int.reduceToNat, Int.reduceEq, Int.reduceLT, Int.reduceLE, takeP, List.drop_zero, Int.toNat_natCast, al_so, al_al, al_pc, al_rc, al_pst, al_rst, w64, List.length_append, List.length_map, Nat.mul_one, beq_self_eq_true, Lim.cs, PathC.cs, RuleC.cs, gdP, gdR]))
  rw [decide_eq_true e5] at m2
  by_cases e6 : 1 ≤ c.iv ∧ c.iv ≤ 1000000
  rotate_left
  · rw [confMay_f fun g => e6 g.2.2.2.2.2.1]
    rw [decide_eq_false e6] at m3
    clear e1 e2 e3 e4 e5 e6
    simp only [c_conf_May, ↓Ed, Eu, ↓reduceIte, reduceCtorEq, Nat.reduceAdd, Nat.reduceEqDiff, Nat.reduceLT, Nat.reduceLeDiff, Int.reduceToNat, Int.reduceEq, Int.reduceLT, Int.reduceLE, takeP, List.drop_zero, Int.toNat_natCast, al_so, al_al, al_pc, al_rc, al_pst, al_rst, w64, List.length_append, List.length_map, Nat.mul_one, beq_self_eq_true, Lim.cs, PathC.cs, RuleC.cs, gdP, gdR]
    repeat' ((first | refine CallO_pure (n1) ?_ | refine CallO_pure (n2) ?_ | refine CallO_pure (m1) ?_ | refine CallO_pure (m2) ?_ | refine CallO_pure (m3) ?_ | refine NewB_intro0 (fun b => ?_) | (refine NewB_intro (fun b hb => ?_); simp only [ln_cons2, ln_nil, and_true] at hb) | (with_reducible apply And.intro; (focus (first | omega | (simp only [Fact, Bool.not_eq_true', Bool.not_eq_false', decide_eq_true_eq, decide_eq_false_iff_not] at *; omega)))) | ((first | refine gW_sp ?_ | refine condW_sp ?_ | refine pickW_sp ?_); (try refine Sp_n ?_); (first | refine Sp_t (by assumption) ?_ | refine Sp_f (by assumption) ?_ | refine Sp_split (fun h => ?_) (fun h => ?_)) <;> (first | have h' := Fact_lt h | have h' := Fact_nlt h | have h' := Fact_le h | have h' := Fact_nle h | skip) <;> (try (exfalso; omega))) | refine TreeW_intro (by rfl) ?_ | refine TreeW_all ?_ | refine upQ_intro ?_ | refine Two_intro ?_ ?_ | (refine leK_lit ?_; (simp [-List.getD_eq_getElem?_getD, LeL, lk, *]; done)) | (refine leK_dd ?_; (simp [-List.getD_eq_getElem?_getD, LeS, LeL, lk, *]; done)) | (simp only [Fact, Bool.not_eq_true', Bool.not_eq_false', decide_eq_true_eq, decide_eq_false_iff_not] at *; refine leK_dd ?_; (simp [-List.getD_eq_getElem?_getD, LeS, LeL, lk, *]; done)) | (show (_ : Nat) ≤ _; omega)) <;> (try simp (disch := omega) only [*, ↓Ed, Eu, ↓reduceIte, reduceCtorEq, Nat.reduceAdd, Nat.reduceEqDiff, Nat.reduceLT, Nat.reduceLeDiff, Int.reduceToNat, Int.reduceEq, Int.reduceLT, Int.reduceLE, takeP, List.drop_zero, Int.toNat_natCast, al_so, al_al, al_pc, al_rc, al_pst, al_rst, w64, List.length_append, List.length_map, Nat.mul_one, beq_self_eq_true, Lim.cs, PathC.cs, RuleC.cs, gdP, gdR]))
  rw [decide_eq_true e6] at m3
  by_cases e7 : c.ps.length ≤ 6
  rotate_left
  · rw [confMay_f fun g => e7 g.2.2.2.2.2.2.1]
    have f7 : Fact (decide (6 < (c.ps.length : Int)) = true) := by simp only [Fact, Bool.not_eq_true', Bool.not_eq_false', decide_eq_true_eq, decide_eq_false_iff_not]; omega
    clear e1 e2 e3 e4 e5 e6 e7
    simp only [c_conf_May, ↓Ed, Eu, ↓reduceIte, reduceCtorEq, Nat.reduceAdd, Nat.reduceEqDiff, Nat.reduceLT, Nat.reduceLeDiff, Int.reduceToNat, Int.reduceEq, Int.reduceLT, Int.reduceLE, takeP, List.drop_zero, Int.toNat_natCast, al_so, al_al, al_pc, al_rc, al_pst, al_rst, w64, List.length_append, List.length_map, Nat.mul_one, beq_self_eq_true, Lim.cs, PathC.cs, RuleC.cs, gdP, gdR]
    repeat' ((first | refine CallO_pure (n1) ?_ | refine CallO_pure (n2) ?_ | refine CallO_pure (m1) ?_ | refine CallO_pure (m2) ?_ | refine CallO_pure (m3) ?_ | refine NewB_intro0 (fun b => ?_) | (refine NewB_intro (fun b hb => ?_); simp only [ln_cons2, ln_nil, and_true] at hb) | (with_reducible apply And.intro; (focus (first | omega | (simp only [Fact, Bool.not_eq_true', Bool.not_eq_false', decide_eq_true_eq, decide_eq_false_iff_not] at *; omega)))) | ((first | refine gW_sp ?_ | refine condW_sp ?_ | refine pickW_sp ?_); (try refine Sp_n ?_); (first | refine Sp_t (by assumption) ?_ | refine Sp_f (by assumption) ?_ | refine Sp_split (fun h => ?_) (fun h => ?_)) <;> (first | have h' := Fact_lt h | have h' := Fact_nlt h | have h' := Fact_le h | have h' := Fact_nle h | skip) <;> (try (exfalso; omega))) | refine TreeW_intro (by rfl) ?_ | refine TreeW_all ?_ | refine upQ_intro ?_ | refine Two_intro ?_ ?_ | (refine leK_lit ?_; (simp [-List.getD_eq_getElem?_getD, LeL, lk, *]; done)) | (refine leK_dd ?_; (simp [-List.getD_eq_getElem?_getD, LeS, LeL, lk, *]; done)) | (simp only [Fact, Bool.not_eq_true', Bool.not_eq_false', decide_eq_true_eq, decide_eq_false_iff_not] at *; refine leK_dd ?_; (simp [-List.getD_eq_getElem?_getD, LeS, LeL, lk, *]; done)) | (show (_ : Nat) ≤ _; omega)) <;> (try simp (disch := omega) only [*, ↓Ed, Eu, ↓reduceIte, reduceCtorEq, Nat.reduceAdd, Nat.reduceEqDiff, Nat.reduceLT, Nat.reduceLeDiff, Int.reduceToNat, Int.reduceEq, Int.reduceLT, Int.reduceLE, takeP, List.drop_zero, Int.toNat_natCast, al_so, al_al, al_pc, al_rc, al_pst, al_rst, w64, List.length_append, List.length_map, Nat.mul_one, beq_self_eq_true, Lim.cs, PathC.cs, RuleC.cs, gdP, gdR]))
  have f7 : Fact (decide (6 < (c.ps.length : Int)) = false) := by simp only [Fact, Bool.not_eq_true', Bool.not_eq_false', decide_eq_true_eq, decide_eq_false_iff_not]; omega
  by_cases e8 : c.rs.length ≤ 32
  rotate_left
  · rw [confMay_f fun g => e8 g.2.2.2.2.2.2.2.1]
    have f8 : Fact (decide (32 < (c.rs.length : Int)) = true) := by simp only [Fact, Bool.not_eq_true', Bool.not_eq_false', decide_eq_true_eq, decide_eq_false_iff_not]; omega
    clear e1 e2 e3 e4 e5 e6 e8
    simp only [c_conf_May, ↓Ed, Eu, ↓reduceIte, reduceCtorEq, Nat.reduceAdd, Nat.reduceEqDiff, Nat.reduceLT, Nat.reduceLeDiff, Int.reduceToNat, Int.reduceEq, Int.reduceLT, Int.reduceLE, takeP, List.drop_zero, Int.toNat_natCast, al_so, al_al, al_pc, al_rc, al_pst, al_rst, w64, List.length_append, List.length_map, Nat.mul_one, beq_self_eq_true, Lim.cs, PathC.cs, RuleC.cs, gdP, gdR]
    repeat' ((first | refine CallO_pure (n1) ?_ | refine CallO_pure (n2) ?_ | refine CallO_pure (m1) ?_ | refine CallO_pure (m2) ?_ | refine CallO_pure (m3) ?_ | refine NewB_intro0 (fun b => ?_) | (refine NewB_intro (fun b hb => ?_); simp only [ln_cons2, ln_nil, and_true] at hb) | (with_reducible apply And.intro; (focus (first | omega | (simp only [Fact, Bool.not_eq_true', Bool.not_eq_false', decide_eq_true_eq, decide_eq_false_iff_not] at *; omega)))) | ((first | refine gW_sp ?_ | refine condW_sp ?_ | refine pickW_sp ?_); (try refine Sp_n ?_); (first | refine Sp_t (by assumption) ?_ | refine Sp_f (by assumption) ?_ | refine Sp_split (fun h => ?_) (fun h => ?_)) <;> (first | have h' := Fact_lt h | have h' := Fact_nlt h | have h' := Fact_le h | have h' := Fact_nle h | skip) <;> (try (exfalso; omega))) | refine TreeW_intro (by rfl) ?_ | refine TreeW_all ?_ | refine upQ_intro ?_ | refine Two_intro ?_ ?_ | (refine leK_lit ?_; (simp [-List.getD_eq_getElem?_getD, LeL, lk, *]; done)) | (refine leK_dd ?_; (simp [-List.getD_eq_getElem?_getD, LeS, LeL, lk, *]; done)) | (simp only [Fact, Bool.not_eq_true', Bool.not_eq_false', decide_eq_true_eq, decide_eq_false_iff_not] at *; refine leK_dd ?_; (simp [-List.getD_eq_getElem?_getD, LeS, LeL, lk, *]; done)) | (show (_ : Nat) ≤ _; omega)) <;> (try simp (disch := omega) only [*, ↓Ed, Eu, ↓reduceIte, reduceCtorEq, Nat.reduceAdd, Nat.reduceEqDiff, Nat.reduceLT, Nat.reduceLeDiff, Int.reduceToNat, Int.reduceEq, Int.reduceLT, Int.reduceLE, takeP, List.drop_zero, Int.toNat_natCast, al_so, al_al, al_pc, al_rc, al_pst, al_rst, w64, List.length_append, List.length_map, Nat.mul_one, beq_self_eq_true, Lim.cs, PathC.cs, RuleC.cs, gdP, gdR]))
  have f8 : Fact (decide (32 < (c.rs.length : Int)) = false) := by simp only [Fact, Bool.not_eq_true', Bool.not_eq_false', decide_eq_true_eq, decide_eq_false_iff_not]; omega
  have HQ : Fact (pathsQ c.ps → rulesQ c.rs → confQ c) := fun g1 g2 => ⟨e1, e2, e3, e4, e5, e6, e7, e8, g1, g2⟩
  clear e1 e2 e3 e4 e5 e6
  simp only [c_conf_May, ↓Ed, Eu, ↓reduceIte, reduceCtorEq, Nat.reduceAdd, Nat.reduceEqDiff, Nat.reduceLT, Nat.reduceLeDiff, Int.reduceToNat, Int.reduceEq, Int.reduceLT, Int.reduceLE, takeP, List.drop_zero, Int.toNat_natCast, al_so, al_al, al_pc, al_rc, al_pst, al_rst, w64, List.length_append, List.length_map, Nat.mul_one, beq_self_eq_true, Lim.cs, PathC.cs, RuleC.cs, gdP, gdR]
  repeat' ((first | refine CallO_pure (n1) ?_ | refine CallO_pure (n2) ?_ | refine CallO_pure (m1) ?_ | refine CallO_pure (m2) ?_ | refine CallO_pure (m3) ?_ | refine NewB_intro0 (fun b => ?_) | (refine NewB_intro (fun b hb => ?_); simp only [ln_cons2, ln_nil, and_true] at hb) | (with_reducible apply And.intro; (focus (first | omega | (simp only [Fact, Bool.not_eq_true', Bool.not_eq_false', decide_eq_true_eq, decide_eq_false_iff_not] at *; omega)))) | ((first | refine gW_sp ?_ | refine condW_sp ?_ | refine pickW_sp ?_); (try refine Sp_n ?_); (first | refine Sp_t (by assumption) ?_ | refine Sp_f (by assumption) ?_ | refine Sp_split (fun h => ?_) (fun h => ?_)) <;> (first | have h' := Fact_lt h | have h' := Fact_nlt h | have h' := Fact_le h | have h' := Fact_nle h | skip) <;> (try (exfalso; omega))) | refine TreeW_intro (by rfl) ?_ | refine TreeW_all ?_ | refine upQ_intro ?_ | refine Two_intro ?_ ?_ | (refine leK_lit ?_; (simp [-List.getD_eq_getElem?_getD, LeL, lk, *]; done)) | (refine leK_dd ?_; (simp [-List.getD_eq_getElem?_getD, LeS, LeL, lk, *]; done)) | (simp only [Fact, Bool.not_eq_true', Bool.not_eq_false', decide_eq_true_eq, decide_eq_false_iff_not] at *; refine leK_dd ?_; (simp [-List.getD_eq_getElem?_getD, LeS, LeL, lk, *]; done)) | (show (_ : Nat) ≤ _; omega)) <;> (try simp (disch := omega) only [*, ↓Ed, Eu, ↓reduceIte, reduceCtorEq, Nat.reduceAdd, Nat.reduceEqDiff, Nat.reduceLT, Nat.reduceLeDiff, Int.reduceToNat, Int.reduceEq, Int.reduceLT, Int.reduceLE, takeP, List.drop_zero, Int.toNat_natCast, al_so, al_al, al_pc, al_rc, al_pst, al_rst, w64, List.length_append, List.length_map, Nat.mul_one, beq_self_eq_true, Lim.cs, PathC.cs, RuleC.cs, gdP, gdR]))
  refine wpx_loop (fun k : Nat => ⟨lk [(1, .ptr b 0), (54, .sl none 5 (pths c.ps)), (55, .int .i64 c.ps.length), (56, .int .i64 (k : Int))], lk [(b, [.str c.a, .str c.b, .int .i64 c.la.g, .int .i64 c.la.b, .int .i64 c.la.n, .int .i64 c.lb.g, .int .i64 c.lb.b, .int .i64 c.lb.n, p1.store, r1.store, .int .i64 c.iv])]⟩) (fun k => k ≤ c.ps.length ∧ Fact (∀ j, j < k → pathMay (c.ps.getD j default) = true ∧ apartP (c.ps.getD j default) (c.ps.take j) = true)) (fun k => c.ps.length - k) 0 ⟨by omega, fun j hj => by omega⟩ (Le_lit (by simp [LeL, lk, h1])) ?_
  rintro k ⟨g1, g2⟩
  by_cases hk : k < c.ps.length
  · have f9 : Fact (decide ((k : Int) < c.ps.length) = true) := by simp only [Fact, Bool.not_eq_true', Bool.not_eq_false', decide_eq_true_eq, decide_eq_false_iff_not]; omega
    have sk := sp k
    simp (disch := omega) only [h1, h2, ↓Ed, Eu, ↓reduceIte, reduceCtorEq, Nat.reduceAdd, Nat.reduceEqDiff, Nat.reduceLT, Nat.reduceLeDiff, Int.reduceToNat, Int.reduceEq, Int.reduceLT, Int.reduceLE, takeP, List.drop_zero, Int.toNat_natCast, al_so, al_al, al_pc, al_rc, al_pst, al_rst, w64, List.length_append, List.length_map, Nat.mul_one, beq_self_eq_true, Lim.cs, PathC.cs, RuleC.cs, gdP, gdR]
    repeat' ((first | refine CallW_intro (p_pMay _ _ (by omega)) ?_ | refine CallW_intro (p_apart (c.ps.getD k default) none (c.ps.take k) (by simp; omega)) ?_ | refine NewB_intro0 (fun b => ?_) | (refine NewB_intro (fun b hb => ?_); simp only [ln_cons2, ln_nil, and_true] at hb) | (with_reducible apply And.intro; (focus (first | omega | (simp only [Fact, Bool.not_eq_true', Bool.not_eq_false', decide_eq_true_eq, decide_eq_false_iff_not] at *; omega)))) | ((first | refine gW_sp ?_ | refine condW_sp ?_ | refine pickW_sp ?_); (try refine Sp_n ?_); (first | refine Sp_t (by assumption) ?_ | refine Sp_f (by assumption) ?_ | refine Sp_split (fun h => ?_) (fun h => ?_)) <;> (first | have h' := Fact_lt h | have h' := Fact_nlt h | have h' := Fact_le h | have h' := Fact_nle h | skip) <;> (try (exfalso; omega))) | refine TreeW_intro (by rfl) ?_ | refine TreeW_all ?_ | refine upQ_intro ?_ | refine Two_intro ?_ ?_ | (refine leK_lit ?_; (simp [-List.getD_eq_getElem?_getD, LeL, lk, *]; done)) | (refine leK_dd ?_; (simp [-List.getD_eq_getElem?_getD, LeS, LeL, lk, *]; done)) | (simp only [Fact, Bool.not_eq_true', Bool.not_eq_false', decide_eq_true_eq, decide_eq_false_iff_not] at *; refine leK_dd ?_; (simp [-List.getD_eq_getElem?_getD, LeS, LeL, lk, *]; done)) | (show (_ : Nat) ≤ _; omega)) <;> (try simp (disch := omega) only [*, ↓Ed, Eu, ↓reduceIte, reduceCtorEq, Nat.reduceAdd, Nat.reduceEqDiff, Nat.reduceLT, Nat.reduceLeDiff, Int.reduceToNat, Int.reduceEq, Int.reduceLT, Int.reduceLE, takeP, List.drop_zero, Int.toNat_natCast, al_so, al_al, al_pc, al_rc, al_pst, al_rst, w64, List.length_append, List.length_map, Nat.mul_one, beq_self_eq_true, Lim.cs, PathC.cs, RuleC.cs, gdP, gdR]))
    · rename_i q1 q2
      simp only [Fact] at q1 q2 h g2
      exact Round_lit (k + 1) ⟨Le_lit (by simp [LeL, lk, *]), ⟨by omega, fun j hj => by
        by_cases e : j = k
        · subst e; exact ⟨by simp only [pathMay, q1, q2, Bool.and_self], h⟩
        · exact g2 j (by omega)⟩, by omega⟩
    · simp only [Fact] at h
      exact (confMay_f fun g => by have := (g.2.2.2.2.2.2.2.2.1 k hk).2; rw [h] at this; cases this).symm
    · simp only [Fact] at h
      exact (confMay_f fun g => by have := (g.2.2.2.2.2.2.2.2.1 k hk).1; simp only [pathMay, h, Bool.and_false] at this; cases this).symm
    · simp only [Fact] at h
      exact (confMay_f fun g => by have := (g.2.2.2.2.2.2.2.2.1 k hk).1; simp only [pathMay, h, Bool.false_and] at this; cases this).symm
  have f9 : Fact (decide ((k : Int) < c.ps.length) = false) := by simp only [Fact, Bool.not_eq_true', Bool.not_eq_false', decide_eq_true_eq, decide_eq_false_iff_not]; omega
  have HP : Fact (pathsQ c.ps) := fun j hj => g2 j (by omega)
  clear g2
  simp (disch := omega) only [h1, h2, ↓Ed, Eu, ↓reduceIte, reduceCtorEq, Nat.reduceAdd, Nat.reduceEqDiff, Nat.reduceLT, Nat.reduceLeDiff, Int.reduceToNat, Int.reduceEq, Int.reduceLT, Int.reduceLE, takeP, List.drop_zero, Int.toNat_natCast, al_so, al_al, al_pc, al_rc, al_pst, al_rst, w64, List.length_append, List.length_map, Nat.mul_one, beq_self_eq_true, Lim.cs, PathC.cs, RuleC.cs, gdP, gdR]
  repeat' ((first | refine NewB_intro0 (fun b => ?_) | (refine NewB_intro (fun b hb => ?_); simp only [ln_cons2, ln_nil, and_true] at hb) | (with_reducible apply And.intro; (focus (first | omega | (simp only [Fact, Bool.not_eq_true', Bool.not_eq_false', decide_eq_true_eq, decide_eq_false_iff_not] at *; omega)))) | ((first | refine gW_sp ?_ | refine condW_sp ?_ | refine pickW_sp ?_); (try refine Sp_n ?_); (first | refine Sp_t (by assumption) ?_ | refine Sp_f (by assumption) ?_ | refine Sp_split (fun h => ?_) (fun h => ?_)) <;> (first | have h' := Fact_lt h | have h' := Fact_nlt h | have h' := Fact_le h | have h' := Fact_nle h | skip) <;> (try (exfalso; omega))) | refine TreeW_intro (by rfl) ?_ | refine TreeW_all ?_ | refine upQ_intro ?_ | refine Two_intro ?_ ?_ | (refine leK_lit ?_; (simp [-List.getD_eq_getElem?_getD, LeL, lk, *]; done)) | (refine leK_dd ?_; (simp [-List.getD_eq_getElem?_getD, LeS, LeL, lk, *]; done)) | (simp only [Fact, Bool.not_eq_true', Bool.not_eq_false', decide_eq_true_eq, decide_eq_false_iff_not] at *; refine leK_dd ?_; (simp [-List.getD_eq_getElem?_getD, LeS, LeL, lk, *]; done)) | (show (_ : Nat) ≤ _; omega)) <;> (try simp (disch := omega) only [*, ↓Ed, Eu, ↓reduceIte, reduceCtorEq, Nat.reduceAdd, Nat.reduceEqDiff, Nat.reduceLT, Nat.reduceLeDiff, Int.reduceToNat, Int.reduceEq, Int.reduceLT, Int.reduceLE, takeP, List.drop_zero, Int.toNat_natCast, al_so, al_al, al_pc, al_rc, al_pst, al_rst, w64, List.length_append, List.length_map, Nat.mul_one, beq_self_eq_true, Lim.cs, PathC.cs, RuleC.cs, gdP, gdR]))
  clear f9 g1 hk
  refine wpx_loop (fun k : Nat => ⟨lk [(82, .sl none 2 (rls c.rs)), (83, .int .i64 c.rs.length), (84, .int .i64 (k : Int))], lk []⟩) (fun k => k ≤ c.rs.length ∧ Fact (∀ j, j < k → mayG (c.rs.getD j default).pt = true)) (fun k => c.rs.length - k) 0 ⟨by omega, fun j hj => by omega⟩ (Le_lit (by simp [LeL, lk, h2])) ?_
  rintro k ⟨g1, g2⟩
  by_cases hk : k < c.rs.length
  · have f9 : Fact (decide ((k : Int) < c.rs.length) = true) := by simp only [Fact, Bool.not_eq_true', Bool.not_eq_false', decide_eq_true_eq, decide_eq_false_iff_not]; omega
    have sk := sr k
    simp (disch := omega) only [h1, h2, ↓Ed, Eu, ↓reduceIte, reduceCtorEq, Nat.reduceAdd, Nat.reduceEqDiff, Nat.reduceLT, Nat.reduceLeDiff, Int.reduceToNat, Int.reduceEq, Int.reduceLT, Int.reduceLE, takeP, List.drop_zero, Int.toNat_natCast, al_so, al_al, al_pc, al_rc, al_pst, al_rst, w64, List.length_append, List.length_map, Nat.mul_one, beq_self_eq_true, Lim.cs, PathC.cs, RuleC.cs, gdP, gdR]
    repeat' ((first | refine CallO_pure (p_gMay _ (by omega)) ?_ | refine NewB_intro0 (fun b => ?_) | (refine NewB_intro (fun b hb => ?_); simp only [ln_cons2, ln_nil, and_true] at hb) | (with_reducible apply And.intro; (focus (first | omega | (simp only [Fact, Bool.not_eq_true', Bool.not_eq_false', decide_eq_true_eq, decide_eq_false_iff_not] at *; omega)))) | ((first | refine gW_sp ?_ | refine condW_sp ?_ | refine pickW_sp ?_); (try refine Sp_n ?_); (first | refine Sp_t (by assumption) ?_ | refine Sp_f (by assumption) ?_ | refine Sp_split (fun h => ?_) (fun h => ?_)) <;> (first | have h' := Fact_lt h | have h' := Fact_nlt h | have h' := Fact_le h | have h' := Fact_nle h | skip) <;> (try (exfalso; omega))) | refine TreeW_intro (by rfl) ?_ | refine TreeW_all ?_ | refine upQ_intro ?_ | refine Two_intro ?_ ?_ | (refine leK_lit ?_; (simp [-List.getD_eq_getElem?_getD, LeL, lk, *]; done)) | (refine leK_dd ?_; (simp [-List.getD_eq_getElem?_getD, LeS, LeL, lk, *]; done)) | (simp only [Fact, Bool.not_eq_true', Bool.not_eq_false', decide_eq_true_eq, decide_eq_false_iff_not] at *; refine leK_dd ?_; (simp [-List.getD_eq_getElem?_getD, LeS, LeL, lk, *]; done)) | (show (_ : Nat) ≤ _; omega)) <;> (try simp (disch := omega) only [*, ↓Ed, Eu, ↓reduceIte, reduceCtorEq, Nat.reduceAdd, Nat.reduceEqDiff, Nat.reduceLT, Nat.reduceLeDiff, Int.reduceToNat, Int.reduceEq, Int.reduceLT, Int.reduceLE, takeP, List.drop_zero, Int.toNat_natCast, al_so, al_al, al_pc, al_rc, al_pst, al_rst, w64, List.length_append, List.length_map, Nat.mul_one, beq_self_eq_true, Lim.cs, PathC.cs, RuleC.cs, gdP, gdR]))
    · simp only [Fact] at h g2
      exact Round_lit (k + 1) ⟨Le_lit (by simp [LeL, lk]), ⟨by omega, fun j hj => by
        by_cases e : j = k
        · subst e; exact h
        · exact g2 j (by omega)⟩, by omega⟩
    · simp only [Fact] at h
      exact (confMay_f fun g => by have := g.2.2.2.2.2.2.2.2.2 k hk; rw [h] at this; cases this).symm
  have f9 : Fact (decide ((k : Int) < c.rs.length) = false) := by simp only [Fact, Bool.not_eq_true', Bool.not_eq_false', decide_eq_true_eq, decide_eq_false_iff_not]; omega
  have HR : rulesQ c.rs := fun j hj => g2 j (by omega)
  rw [confMay_t (HQ HP HR)]
  clear g2 HR
  simp (disch := omega) only [h1, h2, ↓Ed, Eu, ↓reduceIte, reduceCtorEq, Nat.reduceAdd, Nat.reduceEqDiff, Nat.reduceLT, Nat.reduceLeDiff, Int.reduceToNat, Int.reduceEq, Int.reduceLT, Int.reduceLE, takeP, List.drop_zero, Int.toNat_natCast, al_so, al_al, al_pc, al_rc, al_pst, al_rst, w64, List.length_append, List.length_map, Nat.mul_one, beq_self_eq_true, Lim.cs, PathC.cs, RuleC.cs, gdP, gdR]
  repeat' ((first | refine NewB_intro0 (fun b => ?_) | (refine NewB_intro (fun b hb => ?_); simp only [ln_cons2, ln_nil, and_true] at hb) | (with_reducible apply And.intro; (focus (first | omega | (simp only [Fact, Bool.not_eq_true', Bool.not_eq_false', decide_eq_true_eq, decide_eq_false_iff_not] at *; omega)))) | ((first | refine gW_sp ?_ | refine condW_sp ?_ | refine pickW_sp ?_); (try refine Sp_n ?_); (first | refine Sp_t (by assumption) ?_ | refine Sp_f (by assumption) ?_ | refine Sp_split (fun h => ?_) (fun h => ?_)) <;> (first | have h' := Fact_lt h | have h' := Fact_nlt h | have h' := Fact_le h | have h' := Fact_nle h | skip) <;> (try (exfalso; omega))) | refine TreeW_intro (by rfl) ?_ | refine TreeW_all ?_ | refine upQ_intro ?_ | refine Two_intro ?_ ?_ | (refine leK_lit ?_; (simp [-List.getD_eq_getElem?_getD, LeL, lk, *]; done)) | (refine leK_dd ?_; (simp [-List.getD_eq_getElem?_getD, LeS, LeL, lk, *]; done)) | (simp only [Fact, Bool.not_eq_true', Bool.not_eq_false', decide_eq_true_eq, decide_eq_false_iff_not] at *; refine leK_dd ?_; (simp [-List.getD_eq_getElem?_getD, LeS, LeL, lk, *]; done)) | (show (_ : Nat) ≤ _; omega)) <;> (try simp (disch := omega) only [*, ↓Ed, Eu, ↓reduceIte, reduceCtorEq, Nat.reduceAdd, Nat.reduceEqDiff, Nat.reduceLT, Nat.reduceLeDiff, Int.reduceToNat, Int.reduceEq, Int.reduceLT, Int.reduceLE, takeP, List.drop_zero, Int.toNat_natCast, al_so, al_al, al_pc, al_rc, al_pst, al_rst, w64, List.length_append, List.length_map, Nat.mul_one, beq_self_eq_true, Lim.cs, PathC.cs, RuleC.cs, gdP, gdR]))
end Go.Proofs.YtbjmcmgekcmbpaaGreatDoor

/- chapter 21: what the laws begin with -/
namespace Go.Proofs.YtbjmcmgekcmbpaaGreatDoor
set_option linter.all false
open Go.RowKit
set_option maxRecDepth 100000
theorem goQ_small : ∀ (l : List (List UInt8)) (x : PS) (i : Nat), PSok x → (goQ x i l).1.ps.length ≤ 6 ∧ (goQ x i l).1.rs.length ≤ 32
  | [], x, i, h => by
    rw [goQ]
    split
    · exact ⟨h.pl, h.rl⟩
    · simp [Conf.zero]
  | t :: l, x, i, h => by
    rw [goQ]
    split
    · rename_i g
      exact goQ_small l _ _ (lineQ_ok h g)
    · simp [Conf.zero]
theorem confP_small (s : List UInt8) : (confP s).1.ps.length ≤ 6 ∧ (confP s).1.rs.length ≤ 32 := goQ_small _ _ _ ps_zero
theorem mayG_len {p : List UInt8} (h : mayG p = true) : p.length ≤ 40 := (mayG_iff.1 h).2.1
theorem name_len {s : List UInt8} (h : nameP s = true) : s.length ≤ 12 := (nameP_iff.1 h).2.1
theorem may_short {c : Conf} (h : confQ c) : c.a.length ≤ 1000000 ∧ c.b.length ≤ 1000000 ∧ (∀ i, (c.ps.getD i default).ap.length ≤ 1000000 ∧ (c.ps.getD i default).bp.length ≤ 1000000) ∧ (∀ i, (c.rs.getD i default).pt.length ≤ 1000000) := by
  obtain ⟨h1, h2, _, _, _, _, _, _, h9, h10⟩ := h
  refine ⟨Nat.le_trans (name_len h1) (by omega), Nat.le_trans (name_len h2) (by omega), fun i => ?_, fun i => ?_⟩
  · by_cases hi : i < c.ps.length
    · have := (h9 i hi).1
      simp only [pathMay, Bool.and_eq_true] at this
      exact ⟨Nat.le_trans (mayP_t this.1).1 (by omega), Nat.le_trans (mayP_t this.2).1 (by omega)⟩
    · rw [List.getD, List.getElem?_eq_none (by omega)]; exact ⟨Nat.zero_le _, Nat.zero_le _⟩
  · by_cases hi : i < c.rs.length
    · exact Nat.le_trans (mayG_len (h10 i hi)) (by omega)
    · rw [List.getD, List.getElem?_eq_none (by omega)]; exact Nat.zero_le _
theorem ex_ivl : confP [105, 110, 116, 101, 114, 118, 97, 108, 32, 48, 10] = (Conf.zero 0, 1, 1) := by
  have e : spx 10 [105, 110, 116, 101, 114, 118, 97, 108, 32, 48, 10] = [[105, 110, 116, 101, 114, 118, 97, 108, 32, 48], []] := by decide
  have w : wordsL [105, 110, 116, 101, 114, 118, 97, 108, 32, 48] = [[105, 110, 116, 101, 114, 118, 97, 108], [48]] := by decide
  have n : numP [48] = (0, 0) := by decide
  have q : lineQ PS.zero [105, 110, 116, 101, 114, 118, 97, 108, 32, 48] = (PS.zero, 1) := by
    unfold lineQ
    rw [if_neg (by decide), w]
    unfold lineW
    rw [if_neg (by decide), if_neg (by decide), if_neg (by decide), if_neg (by decide), if_pos (by decide)]
    unfold everyQ
    rw [if_neg (by decide), if_neg (by rw [show ([[105, 110, 116, 101, 114, 118, 97, 108], [48]] : List (List UInt8)).getD 1 [] = [48] from rfl, n]; decide), if_pos (by rw [show ([[105, 110, 116, 101, 114, 118, 97, 108], [48]] : List (List UInt8)).getD 1 [] = [48] from rfl, n]; decide)]
  unfold confP
  rw [e, goQ, q, if_neg (by simp)]
  rfl
theorem ex_nil : confP [] = (Conf.zero 0, 0, 7) := by
  rw [confP_lines]
  have e : linesD [] = [] := by decide
  rw [e, goQ, if_neg (by simp [PS.zero])]
theorem p_cfirst : CP Tryz.prog 4 [] (.bool true) := by
  have h1 := p_cParse [105, 110, 116, 101, 114, 118, 97, 108, 32, 48, 10] (by simp)
  have h2 := p_cParse [] (by simp)
  rw [ex_ivl] at h1
  rw [ex_nil] at h2
  refine ok_liglaw21_first _ _ (by simp) ?_
  simp only [c_liglaw21_first, ↓Ed, Eu, ↓reduceIte, reduceCtorEq, Nat.reduceAdd, Nat.reduceEqDiff, Nat.reduceLT, Nat.reduceLeDiff, Int.reduceToNat, Int.reduceEq, Int.reduceLT, Int.reduceLE, al_so, al_al, al_pc, al_rc, al_pst, al_rst, so_pst, so_rst, w64, List.length_append, List.length_map, Nat.mul_one, beq_self_eq_true]
  repeat' ((first | refine CallO_pure (h1) ?_ | refine CallO_pure (h2) ?_ | refine NewB_intro0 (fun b => ?_) | (refine NewB_intro (fun b hb => ?_); simp only [ln_cons2, ln_nil, and_true] at hb) | (with_reducible apply And.intro; (focus (first | omega | (simp only [Fact, Bool.not_eq_true', Bool.not_eq_false', decide_eq_true_eq, decide_eq_false_iff_not] at *; omega)))) | ((first | refine gW_sp ?_ | refine condW_sp ?_ | refine pickW_sp ?_); (try refine Sp_n ?_); (first | refine Sp_t (by assumption) ?_ | refine Sp_f (by assumption) ?_ | refine Sp_split (fun h => ?_) (fun h => ?_)) <;> (first | have h' := Fact_lt h | have h' := Fact_nlt h | have h' := Fact_le h | have h' := Fact_nle h | skip) <;> (try (exfalso; omega))) | refine TreeW_intro (by rfl) ?_ | refine TreeW_all ?_ | refine upQ_intro ?_ | refine Two_intro ?_ ?_ | (refine leK_lit ?_; (simp [-List.getD_eq_getElem?_getD, LeL, lk, *]; done)) | (refine leK_dd ?_; (simp [-List.getD_eq_getElem?_getD, LeS, LeL, lk, *]; done)) | (simp only [Fact, Bool.not_eq_true', Bool.not_eq_false', decide_eq_true_eq, decide_eq_false_iff_not] at *; refine leK_dd ?_; (simp [-List.getD_eq_getElem?_getD, LeS, LeL, lk, *]; done)) | (show (_ : Nat) ≤ _; omega)) <;> (try simp (disch := omega) only [*, ↓Ed, Eu, ↓reduceIte, reduceCtorEq, Nat.reduceAdd, Nat.reduceEqDiff, Nat.reduceLT, Nat.reduceLeDiff, Int.reduceToNat, Int.reduceEq, Int.reduceLT, Int.reduceLE, al_so, al_al, al_pc, al_rc, al_pst, al_rst, so_pst, so_rst, w64, List.length_append, List.length_map, Nat.mul_one, beq_self_eq_true]))
end Go.Proofs.YtbjmcmgekcmbpaaGreatDoor

/- chapter 21: which paths the rules let through; light configurations -/
namespace Go.Proofs.YtbjmcmgekcmbpaaGreatDoor
set_option linter.all false
open Go.RowKit
set_option maxRecDepth 100000
noncomputable def letsP (l : List RuleC) (t : List UInt8) : Bool := match l.find? (fun r => matchP r.pt t) with
  | some r => r.al
  | none => l.all fun r => !r.al
theorem split_at {α : Type} [Inhabited α] {l : List α} {k : Nat} (hk : k < l.length) : l = l.take k ++ l.getD k default :: l.drop (k + 1) := by
  have e : l.getD k default = l[k] := by rw [List.getD, List.getElem?_eq_getElem hk]; rfl
  rw [e, ← List.drop_eq_getElem_cons hk, List.take_append_drop]
theorem all_take {α : Type} [Inhabited α] {l : List α} {p : α → Bool} {k : Nat} (hk : k < l.length) : (l.take (k + 1)).all p = ((l.take k).all p && p (l.getD k default)) := by
  rw [List.take_succ_eq_append_getElem hk, List.all_append]
  simp [List.getD, List.getElem?_eq_getElem hk]
theorem all_bad {α : Type} [Inhabited α] {l : List α} {p : α → Bool} {k : Nat} (hk : k < l.length) (h : p (l.getD k default) = false) : l.all p = false := by
  rw [List.all_eq_false]
  refine ⟨l.getD k default, ?_, by rw [h]; decide⟩
  rw [List.getD, List.getElem?_eq_getElem hk]; exact List.getElem_mem hk
theorem lets_hit {l : List RuleC} {t : List UInt8} {k : Nat} (hk : k < l.length) (h0 : (l.take k).all (fun r => !matchP r.pt t) = true) (hm : matchP (l.getD k default).pt t = true) : letsP l t = (l.getD k default).al := by
  have : l.find? (fun r => matchP r.pt t) = some (l.getD k default) := by
    rw [List.find?_eq_some_iff_append]
    refine ⟨hm, l.take k, l.drop (k + 1), split_at hk, fun a ha => ?_⟩
    exact List.all_eq_true.1 h0 a ha
  unfold letsP
  rw [this]
theorem lets_end {l : List RuleC} {t : List UInt8} (h0 : l.all (fun r => !matchP r.pt t) = true) : letsP l t = l.all fun r => !r.al := by
  have : l.find? (fun r => matchP r.pt t) = none := by
    rw [List.find?_eq_none]
    intro x hx
    have := List.all_eq_true.1 h0 x hx
    simpa using this
  unfold letsP
  rw [this]
theorem lets_nil (t : List UInt8) : letsP [] t = true := rfl
theorem lets_cons (r : RuleC) (l : List RuleC) (t : List UInt8) : letsP (r :: l) t = if matchP r.pt t = true then r.al else (letsP l t && (!r.al || (l.find? (fun r => matchP r.pt t)).isSome)) := by
  unfold letsP
  rw [List.find?_cons]
  cases h : matchP r.pt t with
  | true => simp
  | false =>
    simp only [Bool.false_eq_true, if_false]
    cases l.find? (fun r => matchP r.pt t) with
    | some x => simp
    | none => simp only [List.all_cons, Option.isSome_none, Bool.or_false]; exact Bool.and_comm _ _
theorem lets_star (al : Bool) (l : List RuleC) (t : List UInt8) : letsP (⟨al, [42]⟩ :: l) t = al := by
  have : matchP [42] t = true := by
    unfold matchP
    rw [mt_st, mayG_iff.2 ⟨by simp, by simp, fun j hj => ?_⟩]; · rfl
    have : j = 0 := by simpa using hj
    subst this; decide
  rw [lets_cons, if_pos this]
theorem lets_none {l : List RuleC} {p : List UInt8} {c : Int} (h : mayP p c = true) : letsP (⟨false, [47, 47, 47]⟩ :: l) (textP p c) = letsP l (textP p c) := by
  have hn := (mayP_t h).2.2.2
  have hx : matchP [47, 47, 47] (textP p c) = false := by
    unfold matchP
    unfold textP
    rw [if_pos h]
    cases p with
    | nil => exact absurd rfl hn.1
    | cons x p =>
      have h0 := hn.2.2 0 (by simp)
      simp only [okAt, List.getD_cons_zero, ne_eq, not_true_eq_false, false_and, or_false] at h0
      have hx : x ≠ 47 := by rintro rfl; simp at h0
      simp only [List.cons_append]
      rw [mt_char (by decide)]
      simp [Ne.symm hx]
  rw [lets_cons, if_neg (by simp [hx])]
  simp
def lightC (c : Conf) : Bool := decide (c.a.length ≤ 60 ∧ c.b.length ≤ 60 ∧ c.ps.length ≤ 10 ∧ c.rs.length ≤ 40) && (c.ps.all fun p => decide (p.ap.length ≤ 60 ∧ p.bp.length ≤ 60)) && (c.rs.all fun r => decide (r.pt.length ≤ 60))
theorem light_t {c : Conf} (h : lightC c = true) : c.a.length ≤ 60 ∧ c.b.length ≤ 60 ∧ c.ps.length ≤ 10 ∧ c.rs.length ≤ 40 ∧ (∀ i, (c.ps.getD i default).ap.length ≤ 60 ∧ (c.ps.getD i default).bp.length ≤ 60) ∧ (∀ i, (c.rs.getD i default).pt.length ≤ 60) := by
  simp only [lightC, Bool.and_eq_true, decide_eq_true_eq] at h
  obtain ⟨⟨⟨h1, h2, h3, h4⟩, h5⟩, h6⟩ := h
  refine ⟨h1, h2, h3, h4, fun i => ?_, fun i => ?_⟩
  · by_cases hi : i < c.ps.length
    · have := List.all_eq_true.1 h5 (c.ps.getD i default) (by rw [List.getD, List.getElem?_eq_getElem hi]; exact List.getElem_mem hi)
      exact of_decide_eq_true this
    · rw [List.getD, List.getElem?_eq_none (by omega)]; exact ⟨Nat.zero_le _, Nat.zero_le _⟩
  · by_cases hi : i < c.rs.length
    · have := List.all_eq_true.1 h6 (c.rs.getD i default) (by rw [List.getD, List.getElem?_eq_getElem hi]; exact List.getElem_mem hi)
      exact of_decide_eq_true this
    · rw [List.getD, List.getElem?_eq_none (by omega)]; exact Nat.zero_le _
end Go.Proofs.YtbjmcmgekcmbpaaGreatDoor

/- chapter 20: the document's Match; GlobTells -/
namespace Go.Proofs.YtbjmcmgekcmbpaaGreatDoor
set_option linter.all false
open Go.RowKit
set_option maxRecDepth 100000
theorem tn1 (k : Nat) : ((k : Int) - 1).toNat = k - 1 := by omega
theorem tk1 (k : Nat) : ((k : Int) + 1).toNat = k + 1 := by omega
theorem flat1 (n : Nat) : (List.replicate n [AV.bool false]).flatten = (List.replicate n false).map AV.bool := by simp
end Go.Proofs.YtbjmcmgekcmbpaaGreatDoor

/- chapter 21: light configurations; which paths the rules let through -/
namespace Go.Proofs.YtbjmcmgekcmbpaaGreatDoor
set_option linter.all false
open Go.RowKit
set_option maxRecDepth 100000
theorem p_LightConf (c : Conf) (p1 r1 : AV) (h1 : p1.alias = .sl none 5 (pths c.ps)) (h2 : r1.alias = .sl none 2 (rls c.rs)) (l1 : c.ps.length ≤ maxLen) (l2 : c.rs.length ≤ maxLen) :
    CP Tryz.prog 5 [.agg (cfX c p1 r1)] (.bool (lightC c)) := by
  have hm : maxLen = 9223372036854775807 := rfl
  refine ok_ligkeep_LightConf _ _ (by simp) ?_
  by_cases H : c.a.length ≤ 60 ∧ c.b.length ≤ 60 ∧ c.ps.length ≤ 10 ∧ c.rs.length ≤ 40
  rotate_left
  · have e : lightC c = false := by simp only [lightC, decide_eq_false H, Bool.false_and]
    rw [e]
    have F : Fact (¬ (c.a.length ≤ 60 ∧ c.b.length ≤ 60 ∧ c.ps.length ≤ 10 ∧ c.rs.length ≤ 40)) := H
    clear H e
    simp only [c_ligkeep_LightConf, ↓Ed, Eu, ↓reduceIte, reduceCtorEq, Nat.reduceAdd, Nat.reduceEqDiff, Nat.reduceLT, Nat.reduceLeDiff, Int.reduceToNat, Int.reduceEq, Int.reduceLT, Int.reduceLE, Int.toNat_natCast, al_so, al_al, al_pc, al_rc, al_pst, al_rst, w64, List.length_append, List.length_map, Nat.mul_one, beq_self_eq_true, Lim.cs, PathC.cs, RuleC.cs, gdP, gdR]
    repeat' ((first | refine NewB_intro0 (fun b => ?_) | (refine NewB_intro (fun b hb => ?_); simp only [ln_cons2, ln_nil, and_true] at hb) | (with_reducible apply And.intro; (focus (first | omega | (simp only [Fact, Bool.not_eq_true', Bool.not_eq_false', decide_eq_true_eq, decide_eq_false_iff_not] at *; omega)))) | ((first | refine gW_sp ?_ | refine condW_sp ?_ | refine pickW_sp ?_); (try refine Sp_n ?_); (first | refine Sp_t (by assumption) ?_ | refine Sp_f (by assumption) ?_ | refine Sp_split (fun h => ?_) (fun h => ?_)) <;> (first | have h' := Fact_lt h | have h' := Fact_nlt h | have h' := Fact_le h | have h' := Fact_nle h | skip) <;> (try (exfalso; omega))) | refine TreeW_intro (by rfl) ?_ | refine TreeW_all ?_ | refine upQ_intro ?_ | refine Two_intro ?_ ?_ | (refine leK_lit ?_; (simp [-List.getD_eq_getElem?_getD, LeL, lk, *]; done)) | (refine leK_dd ?_; (simp [-List.getD_eq_getElem?_getD, LeS, LeL, lk, *]; done)) | (simp only [Fact, Bool.not_eq_true', Bool.not_eq_false', decide_eq_true_eq, decide_eq_false_iff_not] at *; refine leK_dd ?_; (simp [-List.getD_eq_getElem?_getD, LeS, LeL, lk, *]; done)) | (show (_ : Nat) ≤ _; omega)) <;> (try simp (disch := omega) only [*, ↓Ed, Eu, ↓reduceIte, reduceCtorEq, Nat.reduceAdd, Nat.reduceEqDiff, Nat.reduceLT, Nat.reduceLeDiff, Int.reduceToNat, Int.reduceEq, Int.reduceLT, Int.reduceLE, Int.toNat_natCast, al_so, al_al, al_pc, al_rc, al_pst, al_rst, w64, List.length_append, List.length_map, Nat.mul_one, beq_self_eq_true, Lim.cs, PathC.cs, RuleC.cs, gdP, gdR]))
    all_goals (exfalso; simp only [Fact, Bool.not_eq_true', Bool.not_eq_false', decide_eq_true_eq, decide_eq_false_iff_not] at *; omega)
  have e : lightC c = ((c.ps.all fun p => decide (p.ap.length ≤ 60 ∧ p.bp.length ≤ 60)) && (c.rs.all fun r => decide (r.pt.length ≤ 60))) := by simp only [lightC, decide_eq_true H, Bool.true_and]
  rw [e]
  have f1 : Fact (decide (60 < (c.a.length : Int)) = false) := by simp only [Fact, Bool.not_eq_true', Bool.not_eq_false', decide_eq_true_eq, decide_eq_false_iff_not]; omega
  have f2 : Fact (decide (60 < (c.b.length : Int)) = false) := by simp only [Fact, Bool.not_eq_true', Bool.not_eq_false', decide_eq_true_eq, decide_eq_false_iff_not]; omega
  have f3 : Fact (decide (10 < (c.ps.length : Int)) = false) := by simp only [Fact, Bool.not_eq_true', Bool.not_eq_false', decide_eq_true_eq, decide_eq_false_iff_not]; omega
  have f4 : Fact (decide (40 < (c.rs.length : Int)) = false) := by simp only [Fact, Bool.not_eq_true', Bool.not_eq_false', decide_eq_true_eq, decide_eq_false_iff_not]; omega
  clear H e
  simp only [c_ligkeep_LightConf, ↓Ed, Eu, ↓reduceIte, reduceCtorEq, Nat.reduceAdd, Nat.reduceEqDiff, Nat.reduceLT, Nat.reduceLeDiff, Int.reduceToNat, Int.reduceEq, Int.reduceLT, Int.reduceLE, Int.toNat_natCast, al_so, al_al, al_pc, al_rc, al_pst, al_rst, w64, List.length_append, List.length_map, Nat.mul_one, beq_self_eq_true, Lim.cs, PathC.cs, RuleC.cs, gdP, gdR]
  repeat' ((first | refine NewB_intro0 (fun b => ?_) | (refine NewB_intro (fun b hb => ?_); simp only [ln_cons2, ln_nil, and_true] at hb) | (with_reducible apply And.intro; (focus (first | omega | (simp only [Fact, Bool.not_eq_true', Bool.not_eq_false', decide_eq_true_eq, decide_eq_false_iff_not] at *; omega)))) | ((first | refine gW_sp ?_ | refine condW_sp ?_ | refine pickW_sp ?_); (try refine Sp_n ?_); (first | refine Sp_t (by assumption) ?_ | refine Sp_f (by assumption) ?_ | refine Sp_split (fun h => ?_) (fun h => ?_)) <;> (first | have h' := Fact_lt h | have h' := Fact_nlt h | have h' := Fact_le h | have h' := Fact_nle h | skip) <;> (try (exfalso; omega))) | refine TreeW_intro (by rfl) ?_ | refine TreeW_all ?_ | refine upQ_intro ?_ | refine Two_intro ?_ ?_ | (refine leK_lit ?_; (simp [-List.getD_eq_getElem?_getD, LeL, lk, *]; done)) | (refine leK_dd ?_; (simp [-List.getD_eq_getElem?_getD, LeS, LeL, lk, *]; done)) | (simp only [Fact, Bool.not_eq_true', Bool.not_eq_false', decide_eq_true_eq, decide_eq_false_iff_not] at *; refine leK_dd ?_; (simp [-List.getD_eq_getElem?_getD, LeS, LeL, lk, *]; done)) | (show (_ : Nat) ≤ _; omega)) <;> (try simp (disch := omega) only [*, ↓Ed, Eu, ↓reduceIte, reduceCtorEq, Nat.reduceAdd, Nat.reduceEqDiff, Nat.reduceLT, Nat.reduceLeDiff, Int.reduceToNat, Int.reduceEq, Int.reduceLT, Int.reduceLE, Int.toNat_natCast, al_so, al_al, al_pc, al_rc, al_pst, al_rst, w64, List.length_append, List.length_map, Nat.mul_one, beq_self_eq_true, Lim.cs, PathC.cs, RuleC.cs, gdP, gdR]))
  refine wpx_loop (fun k : Nat => ⟨lk [(1, .ptr b 0), (3, .int .i64 (k : Int))], lk [(b, [.str c.a, .str c.b, .int .i64 c.la.g, .int .i64 c.la.b, .int .i64 c.la.n, .int .i64 c.lb.g, .int .i64 c.lb.b, .int .i64 c.lb.n, p1.store, r1.store, .int .i64 c.iv])]⟩) (fun k => k ≤ c.ps.length ∧ Fact (((c.ps.take k).all fun p => decide (p.ap.length ≤ 60 ∧ p.bp.length ≤ 60)) = true)) (fun k => c.ps.length - k) 0 ⟨by omega, by simp [Fact]⟩ (Le_lit (by simp [LeL, lk])) ?_
  rintro k ⟨g1, g2⟩
  by_cases hk : k < c.ps.length
  · have f5 : Fact (decide ((k : Int) < c.ps.length) = true) := by simp only [Fact, Bool.not_eq_true', Bool.not_eq_false', decide_eq_true_eq, decide_eq_false_iff_not]; omega
    by_cases he : (c.ps.getD k default).ap.length ≤ 60 ∧ (c.ps.getD k default).bp.length ≤ 60
    · have f6 : Fact (decide (60 < ((c.ps.getD k default).ap.length : Int)) = false) := by simp only [Fact, Bool.not_eq_true', Bool.not_eq_false', decide_eq_true_eq, decide_eq_false_iff_not]; omega
      have f7 : Fact (decide (60 < ((c.ps.getD k default).bp.length : Int)) = false) := by simp only [Fact, Bool.not_eq_true', Bool.not_eq_false', decide_eq_true_eq, decide_eq_false_iff_not]; omega
      have hn : ((c.ps.take (k + 1)).all fun p => decide (p.ap.length ≤ 60 ∧ p.bp.length ≤ 60)) = true := by rw [all_take hk, show _ = true from g2, decide_eq_true he]; rfl
      have hN : Fact (((c.ps.take (k + 1)).all fun p => decide (p.ap.length ≤ 60 ∧ p.bp.length ≤ 60)) = true) := hn
      clear he hn
      simp (disch := omega) only [h1, h2, ↓Ed, Eu, ↓reduceIte, reduceCtorEq, Nat.reduceAdd, Nat.reduceEqDiff, Nat.reduceLT, Nat.reduceLeDiff, Int.reduceToNat, Int.reduceEq, Int.reduceLT, Int.reduceLE, Int.toNat_natCast, al_so, al_al, al_pc, al_rc, al_pst, al_rst, w64, List.length_append, List.length_map, Nat.mul_one, beq_self_eq_true, Lim.cs, PathC.cs, RuleC.cs, gdP, gdR]
      repeat' ((first | refine NewB_intro0 (fun b => ?_) | (refine NewB_intro (fun b hb => ?_); simp only [ln_cons2, ln_nil, and_true] at hb) | (with_reducible apply And.intro; (focus (first | omega | (simp only [Fact, Bool.not_eq_true', Bool.not_eq_false', decide_eq_true_eq, decide_eq_false_iff_not] at *; omega)))) | ((first | refine gW_sp ?_ | refine condW_sp ?_ | refine pickW_sp ?_); (try refine Sp_n ?_); (first | refine Sp_t (by assumption) ?_ | refine Sp_f (by assumption) ?_ | refine Sp_split (fun h => ?_) (fun h => ?_)) <;> (first | have h' := Fact_lt h | have h' := Fact_nlt h | have h' := Fact_le h | have h' := Fact_nle h | skip) <;> (try (exfalso; omega))) | refine TreeW_intro (by rfl) ?_ | refine TreeW_all ?_ | refine upQ_intro ?_ | refine Two_intro ?_ ?_ | (refine leK_lit ?_; (simp [-List.getD_eq_getElem?_getD, LeL, lk, *]; done)) | (refine leK_dd ?_; (simp [-List.getD_eq_getElem?_getD, LeS, LeL, lk, *]; done)) | (simp only [Fact, Bool.not_eq_true', Bool.not_eq_false', decide_eq_true_eq, decide_eq_false_iff_not] at *; refine leK_dd ?_; (simp [-List.getD_eq_getElem?_getD, LeS, LeL, lk, *]; done)) | (show (_ : Nat) ≤ _; omega)) <;> (try simp (disch := omega) only [*, ↓Ed, Eu, ↓reduceIte, reduceCtorEq, Nat.reduceAdd, Nat.reduceEqDiff, Nat.reduceLT, Nat.reduceLeDiff, Int.reduceToNat, Int.reduceEq, Int.reduceLT, Int.reduceLE, Int.toNat_natCast, al_so, al_al, al_pc, al_rc, al_pst, al_rst, w64, List.length_append, List.length_map, Nat.mul_one, beq_self_eq_true, Lim.cs, PathC.cs, RuleC.cs, gdP, gdR]))
      exact Round_lit (k + 1) ⟨Le_lit (by simp [LeL, lk]), ⟨by omega, hN⟩, by omega⟩
    · rw [all_bad (l := c.ps) hk (decide_eq_false he), Bool.false_and]
      have F : Fact (¬ ((c.ps.getD k default).ap.length ≤ 60 ∧ (c.ps.getD k default).bp.length ≤ 60)) := he
      clear he g2
      simp (disch := omega) only [h1, h2, ↓Ed, Eu, ↓reduceIte, reduceCtorEq, Nat.reduceAdd, Nat.reduceEqDiff, Nat.reduceLT, Nat.reduceLeDiff, Int.reduceToNat, Int.reduceEq, Int.reduceLT, Int.reduceLE, Int.toNat_natCast, al_so, al_al, al_pc, al_rc, al_pst, al_rst, w64, List.length_append, List.length_map, Nat.mul_one, beq_self_eq_true, Lim.cs, PathC.cs, RuleC.cs, gdP, gdR]
      repeat' ((first | refine NewB_intro0 (fun b => ?_) | (refine NewB_intro (fun b hb => ?_); simp only [ln_cons2, ln_nil, and_true] at hb) | (with_reducible apply And.intro; (focus (first | omega | (simp only [Fact, Bool.not_eq_true', Bool.not_eq_false', decide_eq_true_eq, decide_eq_false_iff_not] at *; omega)))) | ((first | refine gW_sp ?_ | refine condW_sp ?_ | refine pickW_sp ?_); (try refine Sp_n ?_); (first | refine Sp_t (by assumption) ?_ | refine Sp_f (by assumption) ?_ | refine Sp_split (fun h => ?_) (fun h => ?_)) <;> (first | have h' := Fact_lt h | have h' := Fact_nlt h | have h' := Fact_le h | have h' := Fact_nle h | skip) <;> (try (exfalso; omega))) | refine TreeW_intro (by rfl) ?_ | refine TreeW_all ?_ | refine upQ_intro ?_ | refine Two_intro ?_ ?_ | (refine leK_lit ?_; (simp [-List.getD_eq_getElem?_getD, LeL, lk, *]; done)) | (refine leK_dd ?_; (simp [-List.getD_eq_getElem?_getD, LeS, LeL, lk, *]; done)) | (simp only [Fact, Bool.not_eq_true', Bool.not_eq_false', decide_eq_true_eq, decide_eq_false_iff_not] at *; refine leK_dd ?_; (simp [-List.getD_eq_getElem?_getD, LeS, LeL, lk, *]; done)) | (show (_ : Nat) ≤ _; omega)) <;> (try simp (disch := omega) only [*, ↓Ed, Eu, ↓reduceIte, reduceCtorEq, Nat.reduceAdd, Nat.reduceEqDiff, Nat.reduceLT, Nat.reduceLeDiff, Int.reduceToNat, Int.reduceEq, Int.reduceLT, Int.reduceLE, Int.toNat_natCast, al_so, al_al, al_pc, al_rc, al_pst, al_rst, w64, List.length_append, List.length_map, Nat.mul_one, beq_self_eq_true, Lim.cs, PathC.cs, RuleC.cs, gdP, gdR]))
      all_goals (exfalso; simp only [Fact, Bool.not_eq_true', Bool.not_eq_false', decide_eq_true_eq, decide_eq_false_iff_not] at *; omega)
  have f5 : Fact (decide ((k : Int) < c.ps.length) = false) := by simp only [Fact, Bool.not_eq_true', Bool.not_eq_false', decide_eq_true_eq, decide_eq_false_iff_not]; omega
  have hA : (c.ps.all fun p => decide (p.ap.length ≤ 60 ∧ p.bp.length ≤ 60)) = true := by simp only [Fact] at g2; rw [List.take_of_length_le (by omega)] at g2; exact g2
  rw [hA, Bool.true_and]
  clear hA g2
  simp (disch := omega) only [h1, h2, ↓Ed, Eu, ↓reduceIte, reduceCtorEq, Nat.reduceAdd, Nat.reduceEqDiff, Nat.reduceLT, Nat.reduceLeDiff, Int.reduceToNat, Int.reduceEq, Int.reduceLT, Int.reduceLE, Int.toNat_natCast, al_so, al_al, al_pc, al_rc, al_pst, al_rst, w64, List.length_append, List.length_map, Nat.mul_one, beq_self_eq_true, Lim.cs, PathC.cs, RuleC.cs, gdP, gdR]
  repeat' ((first | refine NewB_intro0 (fun b => ?_) | (refine NewB_intro (fun b hb => ?_); simp only [ln_cons2, ln_nil, and_true] at hb) | (with_reducible apply And.intro; (focus (first | omega | (simp only [Fact, Bool.not_eq_true', Bool.not_eq_false', decide_eq_true_eq, decide_eq_false_iff_not] at *; omega)))) | ((first | refine gW_sp ?_ | refine condW_sp ?_ | refine pickW_sp ?_); (try refine Sp_n ?_); (first | refine Sp_t (by assumption) ?_ | refine Sp_f (by assumption) ?_ | refine Sp_split (fun h => ?_) (fun h => ?_)) <;> (first | have h' := Fact_lt h | have h' := Fact_nlt h | have h' := Fact_le h | have h' := Fact_nle h | skip) <;> (try (exfalso; omega))) | refine TreeW_intro (by rfl) ?_ | refine TreeW_all ?_ | refine upQ_intro ?_ | refine Two_intro ?_ ?_ | (refine leK_lit ?_; (simp [-List.getD_eq_getElem?_getD, LeL, lk, *]; done)) | (refine leK_dd ?_; (simp [-List.getD_eq_getElem?_getD, LeS, LeL, lk, *]; done)) | (simp only [Fact, Bool.not_eq_true', Bool.not_eq_false', decide_eq_true_eq, decide_eq_false_iff_not] at *; refine leK_dd ?_; (simp [-List.getD_eq_getElem?_getD, LeS, LeL, lk, *]; done)) | (show (_ : Nat) ≤ _; omega)) <;> (try simp (disch := omega) only [*, ↓Ed, Eu, ↓reduceIte, reduceCtorEq, Nat.reduceAdd, Nat.reduceEqDiff, Nat.reduceLT, Nat.reduceLeDiff, Int.reduceToNat, Int.reduceEq, Int.reduceLT, Int.reduceLE, Int.toNat_natCast, al_so, al_al, al_pc, al_rc, al_pst, al_rst, w64, List.length_append, List.length_map, Nat.mul_one, beq_self_eq_true, Lim.cs, PathC.cs, RuleC.cs, gdP, gdR]))
  clear f5 g1 hk
  refine wpx_loop (fun k : Nat => ⟨lk [(1, .ptr b 0), (4, .int .i64 (k : Int))], lk [(b, [.str c.a, .str c.b, .int .i64 c.la.g, .int .i64 c.la.b, .int .i64 c.la.n, .int .i64 c.lb.g, .int .i64 c.lb.b, .int .i64 c.lb.n, p1.store, r1.store, .int .i64 c.iv])]⟩) (fun k => k ≤ c.rs.length ∧ Fact (((c.rs.take k).all fun r => decide (r.pt.length ≤ 60)) = true)) (fun k => c.rs.length - k) 0 ⟨by omega, by simp [Fact]⟩ (Le_lit (by simp [LeL, lk])) ?_
  rintro k ⟨g1, g2⟩
  by_cases hk : k < c.rs.length
  · have f5 : Fact (decide ((k : Int) < c.rs.length) = true) := by simp only [Fact, Bool.not_eq_true', Bool.not_eq_false', decide_eq_true_eq, decide_eq_false_iff_not]; omega
    by_cases he : (c.rs.getD k default).pt.length ≤ 60
    · have f6 : Fact (decide (60 < ((c.rs.getD k default).pt.length : Int)) = false) := by simp only [Fact, Bool.not_eq_true', Bool.not_eq_false', decide_eq_true_eq, decide_eq_false_iff_not]; omega
      have hn : ((c.rs.take (k + 1)).all fun r => decide (r.pt.length ≤ 60)) = true := by rw [all_take hk, show _ = true from g2, decide_eq_true he]; rfl
      have hN : Fact (((c.rs.take (k + 1)).all fun r => decide (r.pt.length ≤ 60)) = true) := hn
      clear he hn
      simp (disch := omega) only [h1, h2, ↓Ed, Eu, ↓reduceIte, reduceCtorEq, Nat.reduceAdd, Nat.reduceEqDiff, Nat.reduceLT, Nat.reduceLeDiff, Int.reduceToNat, Int.reduceEq, Int.reduceLT, Int.reduceLE, Int.toNat_natCast, al_so, al_al, al_pc, al_rc, al_pst, al_rst, w64, List.length_append, List.length_map, Nat.mul_one, beq_self_eq_true, Lim.cs, PathC.cs, RuleC.cs, gdP, gdR]
      repeat' ((first | refine NewB_intro0 (fun b => ?_) | (refine NewB_intro (fun b hb => ?_); simp only [ln_cons2, ln_nil, and_true] at hb) | (with_reducible apply And.intro; (focus (first | omega | (simp only [Fact, Bool.not_eq_true', Bool.not_eq_false', decide_eq_true_eq, decide_eq_false_iff_not] at *; omega)))) | ((first | refine gW_sp ?_ | refine condW_sp ?_ | refine pickW_sp ?_); (try refine Sp_n ?_); (first | refine Sp_t (by assumption) ?_ | refine Sp_f (by assumption) ?_ | refine Sp_split (fun h => ?_) (fun h => ?_)) <;> (first | have h' := Fact_lt h | have h' := Fact_nlt h | have h' := Fact_le h | have h' := Fact_nle h | skip) <;> (try (exfalso; omega))) | refine TreeW_intro (by rfl) ?_ | refine TreeW_all ?_ | refine upQ_intro ?_ | refine Two_intro ?_ ?_ | (refine leK_lit ?_; (simp [-List.getD_eq_getElem?_getD, LeL, lk, *]; done)) | (refine leK_dd ?_; (simp [-List.getD_eq_getElem?_getD, LeS, LeL, lk, *]; done)) | (simp only [Fact, Bool.not_eq_true', Bool.not_eq_false', decide_eq_true_eq, decide_eq_false_iff_not] at *; refine leK_dd ?_; (simp [-List.getD_eq_getElem?_getD, LeS, LeL, lk, *]; done)) | (show (_ : Nat) ≤ _; omega)) <;> (try simp (disch := omega) only [*, ↓Ed, Eu, ↓reduceIte, reduceCtorEq, Nat.reduceAdd, Nat.reduceEqDiff, Nat.reduceLT, Nat.reduceLeDiff, Int.reduceToNat, Int.reduceEq, Int.reduceLT, Int.reduceLE, Int.toNat_natCast, al_so, al_al, al_pc, al_rc, al_pst, al_rst, w64, List.length_append, List.length_map, Nat.mul_one, beq_self_eq_true, Lim.cs, PathC.cs, RuleC.cs, gdP, gdR]))
      exact Round_lit (k + 1) ⟨Le_lit (by simp [LeL, lk]), ⟨by omega, hN⟩, by omega⟩
    · rw [all_bad (l := c.rs) hk (decide_eq_false he)]
      have f6 : Fact (decide (60 < ((c.rs.getD k default).pt.length : Int)) = true) := by simp only [Fact, Bool.not_eq_true', Bool.not_eq_false', decide_eq_true_eq, decide_eq_false_iff_not]; omega
      clear he g2
      simp (disch := omega) only [h1, h2, ↓Ed, Eu, ↓reduceIte, reduceCtorEq, Nat.reduceAdd, Nat.reduceEqDiff, Nat.reduceLT, Nat.reduceLeDiff, Int.reduceToNat, Int.reduceEq, Int.reduceLT, Int.reduceLE, Int.toNat_natCast, al_so, al_al, al_pc, al_rc, al_pst, al_rst, w64, List.length_append, List.length_map, Nat.mul_one, beq_self_eq_true, Lim.cs, PathC.cs, RuleC.cs, gdP, gdR]
      repeat' ((first | refine NewB_intro0 (fun b => ?_) | (refine NewB_intro (fun b hb => ?_); simp only [ln_cons2, ln_nil, and_true] at hb) | (with_reducible apply And.intro; (focus (first | omega | (simp only [Fact, Bool.not_eq_true', Bool.not_eq_false', decide_eq_true_eq, decide_eq_false_iff_not] at *; omega)))) | ((first | refine gW_sp ?_ | refine condW_sp ?_ | refine pickW_sp ?_); (try refine Sp_n ?_); (first | refine Sp_t (by assumption) ?_ | refine Sp_f (by assumption) ?_ | refine Sp_split (fun h => ?_) (fun h => ?_)) <;> (first | have h' := Fact_lt h | have h' := Fact_nlt h | have h' := Fact_le h | have h' := Fact_nle h | skip) <;> (try (exfalso; omega))) | refine TreeW_intro (by rfl) ?_ | refine TreeW_all ?_ | refine upQ_intro ?_ | refine Two_intro ?_ ?_ | (refine leK_lit ?_; (simp [-List.getD_eq_getElem?_getD, LeL, lk, *]; done)) | (refine leK_dd ?_; (simp [-List.getD_eq_getElem?_getD, LeS, LeL, lk, *]; done)) | (simp only [Fact, Bool.not_eq_true', Bool.not_eq_false', decide_eq_true_eq, decide_eq_false_iff_not] at *; refine leK_dd ?_; (simp [-List.getD_eq_getElem?_getD, LeS, LeL, lk, *]; done)) | (show (_ : Nat) ≤ _; omega)) <;> (try simp (disch := omega) only [*, ↓Ed, Eu, ↓reduceIte, reduceCtorEq, Nat.reduceAdd, Nat.reduceEqDiff, Nat.reduceLT, Nat.reduceLeDiff, Int.reduceToNat, Int.reduceEq, Int.reduceLT, Int.reduceLE, Int.toNat_natCast, al_so, al_al, al_pc, al_rc, al_pst, al_rst, w64, List.length_append, List.length_map, Nat.mul_one, beq_self_eq_true, Lim.cs, PathC.cs, RuleC.cs, gdP, gdR]))
  have f5 : Fact (decide ((k : Int) < c.rs.length) = false) := by simp only [Fact, Bool.not_eq_true', Bool.not_eq_false', decide_eq_true_eq, decide_eq_false_iff_not]; omega
  have hA : (c.rs.all fun r => decide (r.pt.length ≤ 60)) = true := by simp only [Fact] at g2; rw [List.take_of_length_le (by omega)] at g2; exact g2
  rw [hA]
  clear hA g2
  simp (disch := omega) only [h1, h2, ↓Ed, Eu, ↓reduceIte, reduceCtorEq, Nat.reduceAdd, Nat.reduceEqDiff, Nat.reduceLT, Nat.reduceLeDiff, Int.reduceToNat, Int.reduceEq, Int.reduceLT, Int.reduceLE, Int.toNat_natCast, al_so, al_al, al_pc, al_rc, al_pst, al_rst, w64, List.length_append, List.length_map, Nat.mul_one, beq_self_eq_true, Lim.cs, PathC.cs, RuleC.cs, gdP, gdR]
  repeat' ((first | refine NewB_intro0 (fun b => ?_) | (refine NewB_intro (fun b hb => ?_); simp only [ln_cons2, ln_nil, and_true] at hb) | (with_reducible apply And.intro; (focus (first | omega | (simp only [Fact, Bool.not_eq_true', Bool.not_eq_false', decide_eq_true_eq, decide_eq_false_iff_not] at *; omega)))) | ((first | refine gW_sp ?_ | refine condW_sp ?_ | refine pickW_sp ?_); (try refine Sp_n ?_); (first | refine Sp_t (by assumption) ?_ | refine Sp_f (by assumption) ?_ | refine Sp_split (fun h => ?_) (fun h => ?_)) <;> (first | have h' := Fact_lt h | have h' := Fact_nlt h | have h' := Fact_le h | have h' := Fact_nle h | skip) <;> (try (exfalso; omega))) | refine TreeW_intro (by rfl) ?_ | refine TreeW_all ?_ | refine upQ_intro ?_ | refine Two_intro ?_ ?_ | (refine leK_lit ?_; (simp [-List.getD_eq_getElem?_getD, LeL, lk, *]; done)) | (refine leK_dd ?_; (simp [-List.getD_eq_getElem?_getD, LeS, LeL, lk, *]; done)) | (simp only [Fact, Bool.not_eq_true', Bool.not_eq_false', decide_eq_true_eq, decide_eq_false_iff_not] at *; refine leK_dd ?_; (simp [-List.getD_eq_getElem?_getD, LeS, LeL, lk, *]; done)) | (show (_ : Nat) ≤ _; omega)) <;> (try simp (disch := omega) only [*, ↓Ed, Eu, ↓reduceIte, reduceCtorEq, Nat.reduceAdd, Nat.reduceEqDiff, Nat.reduceLT, Nat.reduceLeDiff, Int.reduceToNat, Int.reduceEq, Int.reduceLT, Int.reduceLE, Int.toNat_natCast, al_so, al_al, al_pc, al_rc, al_pst, al_rst, w64, List.length_append, List.length_map, Nat.mul_one, beq_self_eq_true, Lim.cs, PathC.cs, RuleC.cs, gdP, gdR]))
theorem tr_t (p : List UInt8) (c : Int) : (textP p c).length ≤ 1000000 := by
  unfold textP
  split
  · rename_i h
    have h1 := mayP_t h
    have h2 := dig_len3 ⟨h1.2.1, h1.2.2.1⟩
    simp only [List.length_append, List.length_cons, List.length_nil]; omega
  · simp
end Go.Proofs.YtbjmcmgekcmbpaaGreatDoor
