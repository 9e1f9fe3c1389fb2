import Derived.Test.YtlefegihikpilaaDoorK18
import Derived.Test.YtlefegihikpilaaDoorK19
import Derived.Test.YtlefegihikpilaaDoorK14
import Derived.Test.YtlefegihikpilaaDoorK8
import Derived.Test.YtlefegihikpilaaDoorK12
/- chapter 21: which configurations may be, the document's -/
namespace Go.Proofs.YtlefegihikpilaaDoor
set_option linter.all false
open Go.RowKit
set_option maxRecDepth 100000
theorem apart_badk {x : PathC} {l : List PathC} {k j : Nat} (hj : j < k) (hk : k ≤ l.length) (hm : meets (l.getD j default) x = true) : apartP x (l.take k) = false := by
  refine apart_bad (l := l.take k) (k := j) (by simp; omega) ?_
  rw [show (l.take k).getD j default = l.getD j default from by simp [List.getD, List.getElem?_take, hj]]
  exact hm
set_option maxHeartbeats 8000000 in
theorem p_sMay (c : Conf) (p1 r1 : AV) (h1 : p1.alias = .sl none 5 (pths c.ps)) (h2 : r1.alias = .sl none 2 (rls c.rs)) (l1 : c.ps.length ≤ maxLen) (l2 : c.rs.length ≤ maxLen)
    (sa : c.a.length ≤ 1000000) (sb : c.b.length ≤ 1000000) (sp : ∀ i, (c.ps.getD i default).ap.length ≤ 1000000 ∧ (c.ps.getD i default).bp.length ≤ 1000000) (sr : ∀ i, (c.rs.getD i default).pt.length ≤ 1000000) :
    CP Tryd.prog 22 [.agg (cfX c p1 r1)] (.bool (confMay c)) := by
  have hm : maxLen = 9223372036854775807 := rfl
  refine ok_ligref20_MayConf _ _ (by simp) ?_
  have n1 := p_rName c.a (by omega)
  have n2 := p_rName c.b (by omega)
  have m1 := p_mayLimits c.la
  have m2 := p_mayLimits c.lb
  cases e1 : nameP c.a with
  | false =>
    rw [confMay_f fun g => by rw [g.1] at e1; cases e1]
    rw [e1] at n1
    clear e1
    simp only [c_ligref20_MayConf, ↓Ed, Eu, ↓reduceIte, reduceCtorEq, Nat.reduceAdd, Nat.reduceEqDiff, Nat.reduceLT, Nat.reduceLeDiff, Int.reduceToNat, Int.reduceEq, Int.reduceLT, Int.reduceLE, Int.toNat_natCast, al_so, al_al, al_pc, al_rc, al_pst, al_rst, w64, List.length_append, List.length_map, Nat.mul_one, beq_self_eq_true, Lim.cs, PathC.cs, RuleC.cs, gdP, gdR]
    repeat' ((first | refine CallO_pure (n1) ?_ | refine NewB_intro0 (fun b => ?_) | (refine NewB_intro (fun b hb => ?_); simp only [ln_cons2, ln_nil, and_true] at hb) | (with_reducible apply And.intro; (focus (first | omega | (simp only [Fact, Bool.not_eq_true', Bool.not_eq_false', decide_eq_true_eq, decide_eq_false_iff_not] at *; omega)))) | ((first | refine gW_sp ?_ | refine condW_sp ?_ | refine pickW_sp ?_); (try refine Sp_n ?_); (first | refine Sp_t (by assumption) ?_ | refine Sp_f (by assumption) ?_ | refine Sp_split (fun h => ?_) (fun h => ?_)) <;> (first | have h' := Fact_lt h | have h' := Fact_nlt h | have h' := Fact_le h | have h' := Fact_nle h | skip) <;> (try (exfalso; omega))) | refine TreeW_intro (by rfl) ?_ | refine TreeW_all ?_ | refine upQ_intro ?_ | refine Two_intro ?_ ?_ | (refine leK_lit ?_; (simp [-List.getD_eq_getElem?_getD, LeL, lk, *]; done)) | (refine leK_dd ?_; (simp [-List.getD_eq_getElem?_getD, LeS, LeL, lk, *]; done)) | (simp only [Fact, Bool.not_eq_true', Bool.not_eq_false', decide_eq_true_eq, decide_eq_false_iff_not] at *; refine leK_dd ?_; (simp [-List.getD_eq_getElem?_getD, LeS, LeL, lk, *]; done)) | (show (_ : Nat) ≤ _; omega)) <;> (try simp (disch := omega) only [*, ↓Ed, Eu, ↓reduceIte, reduceCtorEq, Nat.reduceAdd, Nat.reduceEqDiff, Nat.reduceLT, Nat.reduceLeDiff, Int.reduceToNat, Int.reduceEq, Int.reduceLT, Int.reduceLE, Int.toNat_natCast, al_so, al_al, al_pc, al_rc, al_pst, al_rst, w64, List.length_append, List.length_map, Nat.mul_one, beq_self_eq_true, Lim.cs, PathC.cs, RuleC.cs, gdP, gdR]))
  | true =>
  cases e2 : nameP c.b with
  | false =>
    rw [confMay_f fun g => by rw [g.2.1] at e2; cases e2]
    rw [e1] at n1
    rw [e2] at n2
    clear e1 e2
    simp only [c_ligref20_MayConf, ↓Ed, Eu, ↓reduceIte, reduceCtorEq, Nat.reduceAdd, Nat.reduceEqDiff, Nat.reduceLT, Nat.reduceLeDiff, Int.reduceToNat, Int.reduceEq, Int.reduceLT, Int.reduceLE, Int.toNat_natCast, al_so, al_al, al_pc, al_rc, al_pst, al_rst, w64, List.length_append, List.length_map, Nat.mul_one, beq_self_eq_true, Lim.cs, PathC.cs, RuleC.cs, gdP, gdR]
    repeat' ((first | refine CallO_pure (n1) ?_ | refine CallO_pure (n2) ?_ | refine NewB_intro0 (fun b => ?_) | (refine NewB_intro (fun b hb => ?_); simp only [ln_cons2, ln_nil, and_true] at hb) | (with_reducible apply And.intro; (focus (first | omega | (simp only [Fact, Bool.not_eq_true', Bool.not_eq_false', decide_eq_true_eq, decide_eq_false_iff_not] at *; omega)))) | ((first | refine gW_sp ?_ | refine condW_sp ?_ | refine pickW_sp ?_); (try refine Sp_n ?_); (first | refine Sp_t (by assumption) ?_ | refine Sp_f (by assumption) ?_ | refine Sp_split (fun h => ?_) (fun h => ?_)) <;> (first | have h' := Fact_lt h | have h' := Fact_nlt h | have h' := Fact_le h | have h' := Fact_nle h | skip) <;> (try (exfalso; omega))) | refine TreeW_intro (by rfl) ?_ | refine TreeW_all ?_ | refine upQ_intro ?_ | refine Two_intro ?_ ?_ | (refine leK_lit ?_; (simp [-List.getD_eq_getElem?_getD, LeL, lk, *]; done)) | (refine leK_dd ?_; (simp [-List.getD_eq_getElem?_getD, LeS, LeL, lk, *]; done)) | (simp only [Fact, Bool.not_eq_true', Bool.not_eq_false', decide_eq_true_eq, decide_eq_false_iff_not] at *; refine leK_dd ?_; (simp [-List.getD_eq_getElem?_getD, LeS, LeL, lk, *]; done)) | (show (_ : Nat) ≤ _; omega)) <;> (try simp (disch := omega) only [*, ↓Ed, Eu, ↓reduceIte, reduceCtorEq, Nat.reduceAdd, Nat.reduceEqDiff, Nat.reduceLT, Nat.reduceLeDiff, Int.reduceToNat, Int.reduceEq, Int.reduceLT, Int.reduceLE, Int.toNat_natCast, al_so, al_al, al_pc, al_rc, al_pst, al_rst, w64, List.length_append, List.length_map, Nat.mul_one, beq_self_eq_true, Lim.cs, PathC.cs, RuleC.cs, gdP, gdR]))
  | true =>
  rw [e1] at n1
  rw [e2] at n2
  by_cases e3 : c.a = c.b
  · rw [confMay_f fun g => g.2.2.1 e3]
    have f3 : Fact (decide (c.a = c.b) = true) := decide_eq_true e3
    clear e1 e2 e3
    simp only [c_ligref20_MayConf, ↓Ed, Eu, ↓reduceIte, reduceCtorEq, Nat.reduceAdd, Nat.reduceEqDiff, Nat.reduceLT, Nat.reduceLeDiff, Int.reduceToNat, Int.reduceEq, Int.reduceLT, Int.reduceLE, Int.toNat_natCast, al_so, al_al, al_pc, al_rc, al_pst, al_rst, w64, List.length_append, List.length_map, Nat.mul_one, beq_self_eq_true, Lim.cs, PathC.cs, RuleC.cs, gdP, gdR]
    repeat' ((first | refine CallO_pure (n1) ?_ | refine CallO_pure (n2) ?_ | refine NewB_intro0 (fun b => ?_) | (refine NewB_intro (fun b hb => ?_); simp only [ln_cons2, ln_nil, and_true] at hb) | (with_reducible apply And.intro; (focus (first | omega | (simp only [Fact, Bool.not_eq_true', Bool.not_eq_false', decide_eq_true_eq, decide_eq_false_iff_not] at *; omega)))) | ((first | refine gW_sp ?_ | refine condW_sp ?_ | refine pickW_sp ?_); (try refine Sp_n ?_); (first | refine Sp_t (by assumption) ?_ | refine Sp_f (by assumption) ?_ | refine Sp_split (fun h => ?_) (fun h => ?_)) <;> (first | have h' := Fact_lt h | have h' := Fact_nlt h | have h' := Fact_le h | have h' := Fact_nle h | skip) <;> (try (exfalso; omega))) | refine TreeW_intro (by rfl) ?_ | refine TreeW_all ?_ | refine upQ_intro ?_ | refine Two_intro ?_ ?_ | (refine leK_lit ?_; (simp [-List.getD_eq_getElem?_getD, LeL, lk, *]; done)) | (refine leK_dd ?_; (simp [-List.getD_eq_getElem?_getD, LeS, LeL, lk, *]; done)) | (simp only [Fact, Bool.not_eq_true', Bool.not_eq_false', decide_eq_true_eq, decide_eq_false_iff_not] at *; refine leK_dd ?_; (simp [-List.getD_eq_getElem?_getD, LeS, LeL, lk, *]; done)) | (show (_ : Nat) ≤ _; omega)) <;> (try simp (disch := omega) only [*, ↓Ed, Eu, ↓reduceIte, reduceCtorEq, Nat.reduceAdd, Nat.reduceEqDiff, Nat.reduceLT, Nat.reduceLeDiff, Int.reduceToNat, Int.reduceEq, Int.reduceLT, Int.reduceLE, Int.toNat_natCast, al_so, al_al, al_pc, al_rc, al_pst, al_rst, w64, List.length_append, List.length_map, Nat.mul_one, beq_self_eq_true, Lim.cs, PathC.cs, RuleC.cs, gdP, gdR]))
  have f3 : Fact (decide (c.a = c.b) = false) := decide_eq_false e3
  by_cases e4 : limQ c.la
  rotate_left
  · rw [confMay_f fun g => e4 g.2.2.2.1]
    rw [decide_eq_false e4] at m1
    clear e1 e2 e3 e4
    simp only [c_ligref20_MayConf, ↓Ed, Eu, ↓reduceIte, reduceCtorEq, Nat.reduceAdd, Nat.reduceEqDiff, Nat.reduceLT, Nat.reduceLeDiff, Int.reduceToNat, Int.reduceEq, Int.reduceLT, Int.reduceLE, Int.toNat_natCast, al_so, al_al, al_pc, al_rc, al_pst, al_rst, w64, List.length_append, List.length_map, Nat.mul_one, beq_self_eq_true, Lim.cs, PathC.cs, RuleC.cs, gdP, gdR]
    repeat' ((first | refine CallO_pure (n1) ?_ | refine CallO_pure (n2) ?_ | refine CallO_pure (m1) ?_ | refine NewB_intro0 (fun b => ?_) | (refine NewB_intro (fun b hb => ?_); simp only [ln_cons2, ln_nil, and_true] at hb) | (with_reducible apply And.intro; (focus (first | omega | (simp only [Fact, Bool.not_eq_true', Bool.not_eq_false', decide_eq_true_eq, decide_eq_false_iff_not] at *; omega)))) | ((first | refine gW_sp ?_ | refine condW_sp ?_ | refine pickW_sp ?_); (try refine Sp_n ?_); (first | refine Sp_t (by assumption) ?_ | refine Sp_f (by assumption) ?_ | refine Sp_split (fun h => ?_) (fun h => ?_)) <;> (first | have h' := Fact_lt h | have h' := Fact_nlt h | have h' := Fact_le h | have h' := Fact_nle h | skip) <;> (try (exfalso; omega))) | refine TreeW_intro (by rfl) ?_ | refine TreeW_all ?_ | refine upQ_intro ?_ | refine Two_intro ?_ ?_ | (refine leK_lit ?_; (simp [-List.getD_eq_getElem?_getD, LeL, lk, *]; done)) | (refine leK_dd ?_; (simp [-List.getD_eq_getElem?_getD, LeS, LeL, lk, *]; done)) | (simp only [Fact, Bool.not_eq_true', Bool.not_eq_false', decide_eq_true_eq, decide_eq_false_iff_not] at *; refine leK_dd ?_; (simp [-List.getD_eq_getElem?_getD, LeS, LeL, lk, *]; done)) | (show (_ : Nat) ≤ _; omega)) <;> (try simp (disch := omega) only [*, ↓Ed, Eu, ↓reduceIte, reduceCtorEq, Nat.reduceAdd, Nat.reduceEqDiff, Nat.reduceLT, Nat.reduceLeDiff, Int.reduceToNat, Int.reduceEq, Int.reduceLT, Int.reduceLE, Int.toNat_natCast, al_so, al_al, al_pc, al_rc, al_pst, al_rst, w64, List.length_append, List.length_map, Nat.mul_one, beq_self_eq_true, Lim.cs, PathC.cs, RuleC.cs, gdP, gdR]))
  rw [decide_eq_true e4] at m1
  by_cases e5 : limQ c.lb
  rotate_left
  · rw [confMay_f fun g => e5 g.2.2.2.2.1]
    rw [decide_eq_false e5] at m2
    clear e1 e2 e3 e4 e5
    simp only [c_ligref20_MayConf, ↓Ed, Eu, ↓reduceIte, reduceCtorEq, Nat.reduceAdd, Nat.reduceEqDiff, Nat.reduceLT, Nat.reduceLeDiff, Int.reduceToNat, Int.reduceEq, Int.reduceLT, Int.reduceLE, Int.toNat_natCast, al_so, al_al, al_pc, al_rc, al_pst, al_rst, w64, List.length_append, List.length_map, Nat.mul_one, beq_self_eq_true, Lim.cs, PathC.cs, RuleC.cs, gdP, gdR]
    repeat' ((first | refine CallO_pure (n1) ?_ | refine CallO_pure (n2) ?_ | refine CallO_pure (m1) ?_ | refine CallO_pure (m2) ?_ | refine NewB_intro0 (fun b => ?_) | (refine NewB_intro (fun b hb => ?_); simp only [ln_cons2, ln_nil, and_true] at hb) | (with_reducible apply And.intro; (focus (first | omega | (simp only [Fact, Bool.not_eq_true', Bool.not_eq_false', decide_eq_true_eq, decide_eq_false_iff_not] at *; omega)))) | ((first | refine gW_sp ?_ | refine condW_sp ?_ | refine pickW_sp ?_); (try refine Sp_n ?_); (first | refine Sp_t (by assumption) ?_ | refine Sp_f (by assumption) ?_ | refine Sp_split (fun h => ?_) (fun h => ?_)) <;> (first | have h' := Fact_lt h | have h' := Fact_nlt h | have h' := Fact_le h | have h' := Fact_nle h | skip) <;> (try (exfalso; omega))) | refine TreeW_intro (by rfl) ?_ | refine TreeW_all ?_ | refine upQ_intro ?_ | refine Two_intro ?_ ?_ | (refine leK_lit ?_; (simp [-List.getD_eq_getElem?_getD, LeL, lk, *]; done)) | (refine leK_dd ?_; (simp [-List.getD_eq_getElem?_getD, LeS, LeL, lk, *]; done)) | (simp only [Fact, Bool.not_eq_true', Bool.not_eq_false', decide_eq_true_eq, decide_eq_false_iff_not] at *; refine leK_dd ?_; (simp [-List.getD_eq_getElem?_getD, LeS, LeL, lk, *]; done)) | (show (_ : Nat) ≤ _; omega)) <;> (try simp (disch := omega) only [*, ↓Ed, Eu, ↓reduceIte, reduceCtorEq, Nat.reduceAdd, Nat.reduceEqDiff, Nat.reduceLT, Nat.reduceLeDiff, Int.reduceToNat, Int.reduceEq, Int.reduceLT, Int.reduceLE, Int.toNat_natCast, al_so, al_al, al_pc, al_rc, al_pst, al_rst, w64, List.length_append, List.length_map, Nat.mul_one, beq_self_eq_true, Lim.cs, PathC.cs, RuleC.cs, gdP, gdR]))
  rw [decide_eq_true e5] at m2
  by_cases e7 : c.ps.length ≤ 6
  rotate_left
  · rw [confMay_f fun g => e7 g.2.2.2.2.2.2.1]
    have f7 : Fact (decide (6 < (c.ps.length : Int)) = true) := by simp only [Fact, Bool.not_eq_true', Bool.not_eq_false', decide_eq_true_eq, decide_eq_false_iff_not]; omega
    clear e1 e2 e3 e4 e5 e7
    simp only [c_ligref20_MayConf, ↓Ed, Eu, ↓reduceIte, reduceCtorEq, Nat.reduceAdd, Nat.reduceEqDiff, Nat.reduceLT, Nat.reduceLeDiff, Int.reduceToNat, Int.reduceEq, Int.reduceLT, Int.reduceLE, Int.toNat_natCast, al_so, al_al, al_pc, al_rc, al_pst, al_rst, w64, List.length_append, List.length_map, Nat.mul_one, beq_self_eq_true, Lim.cs, PathC.cs, RuleC.cs, gdP, gdR]
    repeat' ((first | refine CallO_pure (n1) ?_ | refine CallO_pure (n2) ?_ | refine CallO_pure (m1) ?_ | refine CallO_pure (m2) ?_ | refine NewB_intro0 (fun b => ?_) | (refine NewB_intro (fun b hb => ?_); simp only [ln_cons2, ln_nil, and_true] at hb) | (with_reducible apply And.intro; (focus (first | omega | (simp only [Fact, Bool.not_eq_true', Bool.not_eq_false', decide_eq_true_eq, decide_eq_false_iff_not] at *; omega)))) | ((first | refine gW_sp ?_ | refine condW_sp ?_ | refine pickW_sp ?_); (try refine Sp_n ?_); (first | refine Sp_t (by assumption) ?_ | refine Sp_f (by assumption) ?_ | refine Sp_split (fun h => ?_) (fun h => ?_)) <;> (first | have h' := Fact_lt h | have h' := Fact_nlt h | have h' := Fact_le h | have h' := Fact_nle h | skip) <;> (try (exfalso; omega))) | refine TreeW_intro (by rfl) ?_ | refine TreeW_all ?_ | refine upQ_intro ?_ | refine Two_intro ?_ ?_ | (refine leK_lit ?_; (simp [-List.getD_eq_getElem?_getD, LeL, lk, *]; done)) | (refine leK_dd ?_; (simp [-List.getD_eq_getElem?_getD, LeS, LeL, lk, *]; done)) | (simp only [Fact, Bool.not_eq_true', Bool.not_eq_false', decide_eq_true_eq, decide_eq_false_iff_not] at *; refine leK_dd ?_; (simp [-List.getD_eq_getElem?_getD, LeS, LeL, lk, *]; done)) | (show (_ : Nat) ≤ _; omega)) <;> (try simp (disch := omega) only [*, ↓Ed, Eu, ↓reduceIte, reduceCtorEq, Nat.reduceAdd, Nat.reduceEqDiff, Nat.reduceLT, Nat.reduceLeDiff, Int.reduceToNat, Int.reduceEq, Int.reduceLT, Int.reduceLE, Int.toNat_natCast, al_so, al_al, al_pc, al_rc, al_pst, al_rst, w64, List.length_append, List.length_map, Nat.mul_one, beq_self_eq_true, Lim.cs, PathC.cs, RuleC.cs, gdP, gdR]))
  have f7 : Fact (decide (6 < (c.ps.length : Int)) = false) := by simp only [Fact, Bool.not_eq_true', Bool.not_eq_false', decide_eq_true_eq, decide_eq_false_iff_not]; omega
  by_cases e8 : c.rs.length ≤ 32
  rotate_left
  · rw [confMay_f fun g => e8 g.2.2.2.2.2.2.2.1]
    have f8 : Fact (decide (32 < (c.rs.length : Int)) = true) := by simp only [Fact, Bool.not_eq_true', Bool.not_eq_false', decide_eq_true_eq, decide_eq_false_iff_not]; omega
    clear e1 e2 e3 e4 e5 e8
    simp only [c_ligref20_MayConf, ↓Ed, Eu, ↓reduceIte, reduceCtorEq, Nat.reduceAdd, Nat.reduceEqDiff, Nat.reduceLT, Nat.reduceLeDiff, Int.reduceToNat, Int.reduceEq, Int.reduceLT, Int.reduceLE, Int.toNat_natCast, al_so, al_al, al_pc, al_rc, al_pst, al_rst, w64, List.length_append, List.length_map, Nat.mul_one, beq_self_eq_true, Lim.cs, PathC.cs, RuleC.cs, gdP, gdR]
    repeat' ((first | refine CallO_pure (n1) ?_ | refine CallO_pure (n2) ?_ | refine CallO_pure (m1) ?_ | refine CallO_pure (m2) ?_ | refine NewB_intro0 (fun b => ?_) | (refine NewB_intro (fun b hb => ?_); simp only [ln_cons2, ln_nil, and_true] at hb) | (with_reducible apply And.intro; (focus (first | omega | (simp only [Fact, Bool.not_eq_true', Bool.not_eq_false', decide_eq_true_eq, decide_eq_false_iff_not] at *; omega)))) | ((first | refine gW_sp ?_ | refine condW_sp ?_ | refine pickW_sp ?_); (try refine Sp_n ?_); (first | refine Sp_t (by assumption) ?_ | refine Sp_f (by assumption) ?_ | refine Sp_split (fun h => ?_) (fun h => ?_)) <;> (first | have h' := Fact_lt h | have h' := Fact_nlt h | have h' := Fact_le h | have h' := Fact_nle h | skip) <;> (try (exfalso; omega))) | refine TreeW_intro (by rfl) ?_ | refine TreeW_all ?_ | refine upQ_intro ?_ | refine Two_intro ?_ ?_ | (refine leK_lit ?_; (simp [-List.getD_eq_getElem?_getD, LeL, lk, *]; done)) | (refine leK_dd ?_; (simp [-List.getD_eq_getElem?_getD, LeS, LeL, lk, *]; done)) | (simp only [Fact, Bool.not_eq_true', Bool.not_eq_false', decide_eq_true_eq, decide_eq_false_iff_not] at *; refine leK_dd ?_; (simp [-List.getD_eq_getElem?_getD, LeS, LeL, lk, *]; done)) | (show (_ : Nat) ≤ _; omega)) <;> (try simp (disch := omega) only [*, ↓Ed, Eu, ↓reduceIte, reduceCtorEq, Nat.reduceAdd, Nat.reduceEqDiff, Nat.reduceLT, Nat.reduceLeDiff, Int.reduceToNat, Int.reduceEq, Int.reduceLT, Int.reduceLE, Int.toNat_natCast, al_so, al_al, al_pc, al_rc, al_pst, al_rst, w64, List.length_append, List.length_map, Nat.mul_one, beq_self_eq_true, Lim.cs, PathC.cs, RuleC.cs, gdP, gdR]))
  have f8 : Fact (decide (32 < (c.rs.length : Int)) = false) := by simp only [Fact, Bool.not_eq_true', Bool.not_eq_false', decide_eq_true_eq, decide_eq_false_iff_not]; omega
  by_cases e6 : 1 ≤ c.iv ∧ c.iv ≤ 1000000
  rotate_left
  · rw [confMay_f fun g => e6 g.2.2.2.2.2.1]
    have F : Fact (¬ (1 ≤ c.iv ∧ c.iv ≤ 1000000)) := e6
    clear e1 e2 e3 e4 e5 e6
    simp only [c_ligref20_MayConf, ↓Ed, Eu, ↓reduceIte, reduceCtorEq, Nat.reduceAdd, Nat.reduceEqDiff, Nat.reduceLT, Nat.reduceLeDiff, Int.reduceToNat, Int.reduceEq, Int.reduceLT, Int.reduceLE, Int.toNat_natCast, al_so, al_al, al_pc, al_rc, al_pst, al_rst, w64, List.length_append, List.length_map, Nat.mul_one, beq_self_eq_true, Lim.cs, PathC.cs, RuleC.cs, gdP, gdR]
    repeat' ((first | refine CallO_pure (n1) ?_ | refine CallO_pure (n2) ?_ | refine CallO_pure (m1) ?_ | refine CallO_pure (m2) ?_ | refine NewB_intro0 (fun b => ?_) | (refine NewB_intro (fun b hb => ?_); simp only [ln_cons2, ln_nil, and_true] at hb) | (with_reducible apply And.intro; (focus (first | omega | (simp only [Fact, Bool.not_eq_true', Bool.not_eq_false', decide_eq_true_eq, decide_eq_false_iff_not] at *; omega)))) | ((first | refine gW_sp ?_ | refine condW_sp ?_ | refine pickW_sp ?_); (try refine Sp_n ?_); (first | refine Sp_t (by assumption) ?_ | refine Sp_f (by assumption) ?_ | refine Sp_split (fun h => ?_) (fun h => ?_)) <;> (first | have h' := Fact_lt h | have h' := Fact_nlt h | have h' := Fact_le h | have h' := Fact_nle h | skip) <;> (try (exfalso; omega))) | refine TreeW_intro (by rfl) ?_ | refine TreeW_all ?_ | refine upQ_intro ?_ | refine Two_intro ?_ ?_ | (refine leK_lit ?_; (simp [-List.getD_eq_getElem?_getD, LeL, lk, *]; done)) | (refine leK_dd ?_; (simp [-List.getD_eq_getElem?_getD, LeS, LeL, lk, *]; done)) | (simp only [Fact, Bool.not_eq_true', Bool.not_eq_false', decide_eq_true_eq, decide_eq_false_iff_not] at *; refine leK_dd ?_; (simp [-List.getD_eq_getElem?_getD, LeS, LeL, lk, *]; done)) | (show (_ : Nat) ≤ _; omega)) <;> (try simp (disch := omega) only [*, ↓Ed, Eu, ↓reduceIte, reduceCtorEq, Nat.reduceAdd, Nat.reduceEqDiff, Nat.reduceLT, Nat.reduceLeDiff, Int.reduceToNat, Int.reduceEq, Int.reduceLT, Int.reduceLE, Int.toNat_natCast, al_so, al_al, al_pc, al_rc, al_pst, al_rst, w64, List.length_append, List.length_map, Nat.mul_one, beq_self_eq_true, Lim.cs, PathC.cs, RuleC.cs, gdP, gdR]))
    all_goals (exfalso; simp only [Fact, Bool.not_eq_true', Bool.not_eq_false', decide_eq_true_eq, decide_eq_false_iff_not] at *; omega)
  have f9 : Fact (decide (c.iv < 1) = false) := by simp only [Fact, Bool.not_eq_true', Bool.not_eq_false', decide_eq_true_eq, decide_eq_false_iff_not]; omega
  have f10 : Fact (decide (1000000 < c.iv) = false) := by simp only [Fact, Bool.not_eq_true', Bool.not_eq_false', decide_eq_true_eq, decide_eq_false_iff_not]; omega
  have HQ : Fact (pathsQ c.ps → rulesQ c.rs → confQ c) := fun g1 g2 => ⟨e1, e2, e3, e4, e5, e6, e7, e8, g1, g2⟩
  clear e1 e2 e3 e4 e5 e6
  simp only [c_ligref20_MayConf, ↓Ed, Eu, ↓reduceIte, reduceCtorEq, Nat.reduceAdd, Nat.reduceEqDiff, Nat.reduceLT, Nat.reduceLeDiff, Int.reduceToNat, Int.reduceEq, Int.reduceLT, Int.reduceLE, Int.toNat_natCast, al_so, al_al, al_pc, al_rc, al_pst, al_rst, w64, List.length_append, List.length_map, Nat.mul_one, beq_self_eq_true, Lim.cs, PathC.cs, RuleC.cs, gdP, gdR]
  repeat' ((first | refine CallO_pure (n1) ?_ | refine CallO_pure (n2) ?_ | refine CallO_pure (m1) ?_ | refine CallO_pure (m2) ?_ | refine NewB_intro0 (fun b => ?_) | (refine NewB_intro (fun b hb => ?_); simp only [ln_cons2, ln_nil, and_true] at hb) | (with_reducible apply And.intro; (focus (first | omega | (simp only [Fact, Bool.not_eq_true', Bool.not_eq_false', decide_eq_true_eq, decide_eq_false_iff_not] at *; omega)))) | ((first | refine gW_sp ?_ | refine condW_sp ?_ | refine pickW_sp ?_); (try refine Sp_n ?_); (first | refine Sp_t (by assumption) ?_ | refine Sp_f (by assumption) ?_ | refine Sp_split (fun h => ?_) (fun h => ?_)) <;> (first | have h' := Fact_lt h | have h' := Fact_nlt h | have h' := Fact_le h | have h' := Fact_nle h | skip) <;> (try (exfalso; omega))) | refine TreeW_intro (by rfl) ?_ | refine TreeW_all ?_ | refine upQ_intro ?_ | refine Two_intro ?_ ?_ | (refine leK_lit ?_; (simp [-List.getD_eq_getElem?_getD, LeL, lk, *]; done)) | (refine leK_dd ?_; (simp [-List.getD_eq_getElem?_getD, LeS, LeL, lk, *]; done)) | (simp only [Fact, Bool.not_eq_true', Bool.not_eq_false', decide_eq_true_eq, decide_eq_false_iff_not] at *; refine leK_dd ?_; (simp [-List.getD_eq_getElem?_getD, LeS, LeL, lk, *]; done)) | (show (_ : Nat) ≤ _; omega)) <;> (try simp (disch := omega) only [*, ↓Ed, Eu, ↓reduceIte, reduceCtorEq, Nat.reduceAdd, Nat.reduceEqDiff, Nat.reduceLT, Nat.reduceLeDiff, Int.reduceToNat, Int.reduceEq, Int.reduceLT, Int.reduceLE, Int.toNat_natCast, al_so, al_al, al_pc, al_rc, al_pst, al_rst, w64, List.length_append, List.length_map, Nat.mul_one, beq_self_eq_true, Lim.cs, PathC.cs, RuleC.cs, gdP, gdR]))
  clear n1 n2 m1 m2
  refine wpx_loop (fun k : Nat => ⟨lk [(1, .ptr b 0), (3, .int .i64 (k : Int))], lk [(b, [.str c.a, .str c.b, .int .i64 c.la.g, .int .i64 c.la.b, .int .i64 c.la.n, .int .i64 c.lb.g, .int .i64 c.lb.b, .int .i64 c.lb.n, p1.store, r1.store, .int .i64 c.iv])]⟩) (fun k => k ≤ c.ps.length ∧ Fact (∀ j, j < k → pathMay (c.ps.getD j default) = true ∧ apartP (c.ps.getD j default) (c.ps.take j) = true)) (fun k => c.ps.length - k) 0 ⟨by omega, fun j hj => by omega⟩ (Le_lit (by simp [LeL, lk])) ?_
  rintro k ⟨g1, g2⟩
  by_cases hk : k < c.ps.length
  · have f11 : Fact (decide ((k : Int) < c.ps.length) = true) := by simp only [Fact, Bool.not_eq_true', Bool.not_eq_false', decide_eq_true_eq, decide_eq_false_iff_not]; omega
    have sk := sp k
    have q1 := p_MayEnd (c.ps.getD k default).ap (c.ps.getD k default).ac (by omega)
    have q2 := p_MayEnd (c.ps.getD k default).bp (c.ps.getD k default).bc (by omega)
    by_cases hpm : pathMay (c.ps.getD k default) = true
    rotate_left
    · rw [confMay_f fun g => hpm (g.2.2.2.2.2.2.2.2.1 k hk).1]
      have F : Fact (¬ pathMay (c.ps.getD k default) = true) := hpm
      clear hpm g2 sp sr
      cases hA : mayP (c.ps.getD k default).ap (c.ps.getD k default).ac with
      | false =>
        rw [hA] at q1
        clear hA q2
        simp (disch := omega) only [h1, h2, ↓Ed, Eu, ↓reduceIte, reduceCtorEq, Nat.reduceAdd, Nat.reduceEqDiff, Nat.reduceLT, Nat.reduceLeDiff, Int.reduceToNat, Int.reduceEq, Int.reduceLT, Int.reduceLE, Int.toNat_natCast, al_so, al_al, al_pc, al_rc, al_pst, al_rst, w64, List.length_append, List.length_map, Nat.mul_one, beq_self_eq_true, Lim.cs, PathC.cs, RuleC.cs, gdP, gdR]
        repeat' ((first | refine CallO_pure (q1) ?_ | refine NewB_intro0 (fun b => ?_) | (refine NewB_intro (fun b hb => ?_); simp only [ln_cons2, ln_nil, and_true] at hb) | (with_reducible apply And.intro; (focus (first | omega | (simp only [Fact, Bool.not_eq_true', Bool.not_eq_false', decide_eq_true_eq, decide_eq_false_iff_not] at *; omega)))) | ((first | refine gW_sp ?_ | refine condW_sp ?_ | refine pickW_sp ?_); (try refine Sp_n ?_); (first | refine Sp_t (by assumption) ?_ | refine Sp_f (by assumption) ?_ | refine Sp_split (fun h => ?_) (fun h => ?_)) <;> (first | have h' := Fact_lt h | have h' := Fact_nlt h | have h' := Fact_le h | have h' := Fact_nle h | skip) <;> (try (exfalso; omega))) | refine TreeW_intro (by rfl) ?_ | refine TreeW_all ?_ | refine upQ_intro ?_ | refine Two_intro ?_ ?_ | (refine leK_lit ?_; (simp [-List.getD_eq_getElem?_getD, LeL, lk, *]; done)) | (refine leK_dd ?_; (simp [-List.getD_eq_getElem?_getD, LeS, LeL, lk, *]; done)) | (simp only [Fact, Bool.not_eq_true', Bool.not_eq_false', decide_eq_true_eq, decide_eq_false_iff_not] at *; refine leK_dd ?_; (simp [-List.getD_eq_getElem?_getD, LeS, LeL, lk, *]; done)) | (show (_ : Nat) ≤ _; omega)) <;> (try simp (disch := omega) only [*, ↓Ed, Eu, ↓reduceIte, reduceCtorEq, Nat.reduceAdd, Nat.reduceEqDiff, Nat.reduceLT, Nat.reduceLeDiff, Int.reduceToNat, Int.reduceEq, Int.reduceLT, Int.reduceLE, Int.toNat_natCast, al_so, al_al, al_pc, al_rc, al_pst, al_rst, w64, List.length_append, List.length_map, Nat.mul_one, beq_self_eq_true, Lim.cs, PathC.cs, RuleC.cs, gdP, gdR]))
      | true =>
        cases hB : mayP (c.ps.getD k default).bp (c.ps.getD k default).bc with
        | false =>
          rw [hA] at q1
          rw [hB] at q2
          clear hA hB
          simp (disch := omega) only [h1, h2, ↓Ed, Eu, ↓reduceIte, reduceCtorEq, Nat.reduceAdd, Nat.reduceEqDiff, Nat.reduceLT, Nat.reduceLeDiff, Int.reduceToNat, Int.reduceEq, Int.reduceLT, Int.reduceLE, Int.toNat_natCast, al_so, al_al, al_pc, al_rc, al_pst, al_rst, w64, List.length_append, List.length_map, Nat.mul_one, beq_self_eq_true, Lim.cs, PathC.cs, RuleC.cs, gdP, gdR]
          repeat' ((first | refine CallO_pure (q1) ?_ | refine CallO_pure (q2) ?_ | refine NewB_intro0 (fun b => ?_) | (refine NewB_intro (fun b hb => ?_); simp only [ln_cons2, ln_nil, and_true] at hb) | (with_reducible apply And.intro; (focus (first | omega | (simp only [Fact, Bool.not_eq_true', Bool.not_eq_false', decide_eq_true_eq, decide_eq_false_iff_not] at *; omega)))) | ((first | refine gW_sp ?_ | refine condW_sp ?_ | refine pickW_sp ?_); (try refine Sp_n ?_); (first | refine Sp_t (by assumption) ?_ | refine Sp_f (by assumption) ?_ | refine Sp_split (fun h => ?_) (fun h => ?_)) <;> (first | have h' := Fact_lt h | have h' := Fact_nlt h | have h' := Fact_le h | have h' := Fact_nle h | skip) <;> (try (exfalso; omega))) | refine TreeW_intro (by rfl) ?_ | refine TreeW_all ?_ | refine upQ_intro ?_ | refine Two_intro ?_ ?_ | (refine leK_lit ?_; (simp [-List.getD_eq_getElem?_getD, LeL, lk, *]; done)) | (refine leK_dd ?_; (simp [-List.getD_eq_getElem?_getD, LeS, LeL, lk, *]; done)) | (simp only [Fact, Bool.not_eq_true', Bool.not_eq_false', decide_eq_true_eq, decide_eq_false_iff_not] at *; refine leK_dd ?_; (simp [-List.getD_eq_getElem?_getD, LeS, LeL, lk, *]; done)) | (show (_ : Nat) ≤ _; omega)) <;> (try simp (disch := omega) only [*, ↓Ed, Eu, ↓reduceIte, reduceCtorEq, Nat.reduceAdd, Nat.reduceEqDiff, Nat.reduceLT, Nat.reduceLeDiff, Int.reduceToNat, Int.reduceEq, Int.reduceLT, Int.reduceLE, Int.toNat_natCast, al_so, al_al, al_pc, al_rc, al_pst, al_rst, w64, List.length_append, List.length_map, Nat.mul_one, beq_self_eq_true, Lim.cs, PathC.cs, RuleC.cs, gdP, gdR]))
        | true => exact absurd (by simp only [pathMay, hA, hB, Bool.and_self]) F
    have hAB : mayP (c.ps.getD k default).ap (c.ps.getD k default).ac = true ∧ mayP (c.ps.getD k default).bp (c.ps.getD k default).bc = true := by simpa only [pathMay, Bool.and_eq_true] using hpm
    rw [hAB.1] at q1
    rw [hAB.2] at q2
    have hPM : Fact (pathMay (c.ps.getD k default) = true) := hpm
    clear hpm hAB
    simp (disch := omega) only [h1, h2, ↓Ed, Eu, ↓reduceIte, reduceCtorEq, Nat.reduceAdd, Nat.reduceEqDiff, Nat.reduceLT, Nat.reduceLeDiff, Int.reduceToNat, Int.reduceEq, Int.reduceLT, Int.reduceLE, Int.toNat_natCast, al_so, al_al, al_pc, al_rc, al_pst, al_rst, w64, List.length_append, List.length_map, Nat.mul_one, beq_self_eq_true, Lim.cs, PathC.cs, RuleC.cs, gdP, gdR]
    repeat' ((first | refine CallO_pure (q1) ?_ | refine CallO_pure (q2) ?_ | refine NewB_intro0 (fun b => ?_) | (refine NewB_intro (fun b hb => ?_); simp only [ln_cons2, ln_nil, and_true] at hb) | (with_reducible apply And.intro; (focus (first | omega | (simp only [Fact, Bool.not_eq_true', Bool.not_eq_false', decide_eq_true_eq, decide_eq_false_iff_not] at *; omega)))) | ((first | refine gW_sp ?_ | refine condW_sp ?_ | refine pickW_sp ?_); (try refine Sp_n ?_); (first | refine Sp_t (by assumption) ?_ | refine Sp_f (by assumption) ?_ | refine Sp_split (fun h => ?_) (fun h => ?_)) <;> (first | have h' := Fact_lt h | have h' := Fact_nlt h | have h' := Fact_le h | have h' := Fact_nle h | skip) <;> (try (exfalso; omega))) | refine TreeW_intro (by rfl) ?_ | refine TreeW_all ?_ | refine upQ_intro ?_ | refine Two_intro ?_ ?_ | (refine leK_lit ?_; (simp [-List.getD_eq_getElem?_getD, LeL, lk, *]; done)) | (refine leK_dd ?_; (simp [-List.getD_eq_getElem?_getD, LeS, LeL, lk, *]; done)) | (simp only [Fact, Bool.not_eq_true', Bool.not_eq_false', decide_eq_true_eq, decide_eq_false_iff_not] at *; refine leK_dd ?_; (simp [-List.getD_eq_getElem?_getD, LeS, LeL, lk, *]; done)) | (show (_ : Nat) ≤ _; omega)) <;> (try simp (disch := omega) only [*, ↓Ed, Eu, ↓reduceIte, reduceCtorEq, Nat.reduceAdd, Nat.reduceEqDiff, Nat.reduceLT, Nat.reduceLeDiff, Int.reduceToNat, Int.reduceEq, Int.reduceLT, Int.reduceLE, Int.toNat_natCast, al_so, al_al, al_pc, al_rc, al_pst, al_rst, w64, List.length_append, List.length_map, Nat.mul_one, beq_self_eq_true, Lim.cs, PathC.cs, RuleC.cs, gdP, gdR]))
    clear q1 q2
    refine wpx_loop (fun j : Nat => ⟨lk [(1, .ptr b 0), (3, .int .i64 (k : Int)), (4, .int .i64 (j : Int))], lk [(b, [.str c.a, .str c.b, .int .i64 c.la.g, .int .i64 c.la.b, .int .i64 c.la.n, .int .i64 c.lb.g, .int .i64 c.lb.b, .int .i64 c.lb.n, p1.store, r1.store, .int .i64 c.iv])]⟩) (fun j => j ≤ k ∧ Fact (apartP (c.ps.getD k default) (c.ps.take j) = true)) (fun j => k - j) 0 ⟨by omega, by simp [Fact, apartP]⟩ (Le_lit (by simp [LeL, lk])) ?_
    rintro j ⟨g3, g4⟩
    by_cases hj : j < k
    · have f12 : Fact (decide ((j : Int) < (k : Int)) = true) := by simp only [Fact, Bool.not_eq_true', Bool.not_eq_false', decide_eq_true_eq, decide_eq_false_iff_not]; omega
      have hjl : j < c.ps.length := by omega
      cases hmt : meets (c.ps.getD j default) (c.ps.getD k default) with
      | true =>
        rw [confMay_f fun g => by have := (g.2.2.2.2.2.2.2.2.1 k hk).2; rw [apart_badk hj g1 hmt] at this; cases this]
        have F : Fact (((c.ps.getD j default).ap = (c.ps.getD k default).ap ∧ (c.ps.getD j default).ac = (c.ps.getD k default).ac) ∨ ((c.ps.getD j default).bp = (c.ps.getD k default).bp ∧ (c.ps.getD j default).bc = (c.ps.getD k default).bc)) := by
          unfold Fact; simpa only [meets, Bool.or_eq_true, decide_eq_true_eq] using hmt
        clear hmt g2 g4 sp sr sk hPM
        simp (disch := omega) only [h1, h2, ↓Ed, Eu, ↓reduceIte, reduceCtorEq, Nat.reduceAdd, Nat.reduceEqDiff, Nat.reduceLT, Nat.reduceLeDiff, Int.reduceToNat, Int.reduceEq, Int.reduceLT, Int.reduceLE, Int.toNat_natCast, al_so, al_al, al_pc, al_rc, al_pst, al_rst, w64, List.length_append, List.length_map, Nat.mul_one, beq_self_eq_true, Lim.cs, PathC.cs, RuleC.cs, gdP, gdR]
        repeat' ((first | refine NewB_intro0 (fun b => ?_) | (refine NewB_intro (fun b hb => ?_); simp only [ln_cons2, ln_nil, and_true] at hb) | (with_reducible apply And.intro; (focus (first | omega | (simp only [Fact, Bool.not_eq_true', Bool.not_eq_false', decide_eq_true_eq, decide_eq_false_iff_not] at *; omega)))) | ((first | refine gW_sp ?_ | refine condW_sp ?_ | refine pickW_sp ?_); (try refine Sp_n ?_); (first | refine Sp_t (by assumption) ?_ | refine Sp_f (by assumption) ?_ | refine Sp_split (fun h => ?_) (fun h => ?_)) <;> (first | have h' := Fact_lt h | have h' := Fact_nlt h | have h' := Fact_le h | have h' := Fact_nle h | skip) <;> (try (exfalso; omega))) | refine TreeW_intro (by rfl) ?_ | refine TreeW_all ?_ | refine upQ_intro ?_ | refine Two_intro ?_ ?_ | (refine leK_lit ?_; (simp [-List.getD_eq_getElem?_getD, LeL, lk, *]; done)) | (refine leK_dd ?_; (simp [-List.getD_eq_getElem?_getD, LeS, LeL, lk, *]; done)) | (simp only [Fact, Bool.not_eq_true', Bool.not_eq_false', decide_eq_true_eq, decide_eq_false_iff_not] at *; refine leK_dd ?_; (simp [-List.getD_eq_getElem?_getD, LeS, LeL, lk, *]; done)) | (show (_ : Nat) ≤ _; omega)) <;> (try simp (disch := omega) only [*, ↓Ed, Eu, ↓reduceIte, reduceCtorEq, Nat.reduceAdd, Nat.reduceEqDiff, Nat.reduceLT, Nat.reduceLeDiff, Int.reduceToNat, Int.reduceEq, Int.reduceLT, Int.reduceLE, Int.toNat_natCast, al_so, al_al, al_pc, al_rc, al_pst, al_rst, w64, List.length_append, List.length_map, Nat.mul_one, beq_self_eq_true, Lim.cs, PathC.cs, RuleC.cs, gdP, gdR]))
        all_goals
          exfalso
          simp only [Fact, Bool.not_eq_true', Bool.not_eq_false', decide_eq_true_eq, decide_eq_false_iff_not, Bool.and_eq_false_iff] at *
          rcases F with ⟨F1, F2⟩ | ⟨F1, F2⟩
          · simp_all
          · simp_all
      | false =>
        have F : Fact (¬ ((c.ps.getD j default).ap = (c.ps.getD k default).ap ∧ (c.ps.getD j default).ac = (c.ps.getD k default).ac) ∧ ¬ ((c.ps.getD j default).bp = (c.ps.getD k default).bp ∧ (c.ps.getD j default).bc = (c.ps.getD k default).bc)) := by
          unfold Fact; simpa only [meets, Bool.or_eq_false_iff, decide_eq_false_iff_not] using hmt
        have hN : Fact (apartP (c.ps.getD k default) (c.ps.take (j + 1)) = true) := by
          simp only [Fact] at g4 ⊢
          rw [apart_take hjl, g4, hmt]; rfl
        clear hmt g4 sk
        simp (disch := omega) only [h1, h2, ↓Ed, Eu, ↓reduceIte, reduceCtorEq, Nat.reduceAdd, Nat.reduceEqDiff, Nat.reduceLT, Nat.reduceLeDiff, Int.reduceToNat, Int.reduceEq, Int.reduceLT, Int.reduceLE, Int.toNat_natCast, al_so, al_al, al_pc, al_rc, al_pst, al_rst, w64, List.length_append, List.length_map, Nat.mul_one, beq_self_eq_true, Lim.cs, PathC.cs, RuleC.cs, gdP, gdR]
        repeat' ((first | refine NewB_intro0 (fun b => ?_) | (refine NewB_intro (fun b hb => ?_); simp only [ln_cons2, ln_nil, and_true] at hb) | (with_reducible apply And.intro; (focus (first | omega | (simp only [Fact, Bool.not_eq_true', Bool.not_eq_false', decide_eq_true_eq, decide_eq_false_iff_not] at *; omega)))) | ((first | refine gW_sp ?_ | refine condW_sp ?_ | refine pickW_sp ?_); (try refine Sp_n ?_); (first | refine Sp_t (by assumption) ?_ | refine Sp_f (by assumption) ?_ | refine Sp_split (fun h => ?_) (fun h => ?_)) <;> (first | have h' := Fact_lt h | have h' := Fact_nlt h | have h' := Fact_le h | have h' := Fact_nle h | skip) <;> (try (exfalso; omega))) | refine TreeW_intro (by rfl) ?_ | refine TreeW_all ?_ | refine upQ_intro ?_ | refine Two_intro ?_ ?_ | (refine leK_lit ?_; (simp [-List.getD_eq_getElem?_getD, LeL, lk, *]; done)) | (refine leK_dd ?_; (simp [-List.getD_eq_getElem?_getD, LeS, LeL, lk, *]; done)) | (simp only [Fact, Bool.not_eq_true', Bool.not_eq_false', decide_eq_true_eq, decide_eq_false_iff_not] at *; refine leK_dd ?_; (simp [-List.getD_eq_getElem?_getD, LeS, LeL, lk, *]; done)) | (show (_ : Nat) ≤ _; omega)) <;> (try simp (disch := omega) only [*, ↓Ed, Eu, ↓reduceIte, reduceCtorEq, Nat.reduceAdd, Nat.reduceEqDiff, Nat.reduceLT, Nat.reduceLeDiff, Int.reduceToNat, Int.reduceEq, Int.reduceLT, Int.reduceLE, Int.toNat_natCast, al_so, al_al, al_pc, al_rc, al_pst, al_rst, w64, List.length_append, List.length_map, Nat.mul_one, beq_self_eq_true, Lim.cs, PathC.cs, RuleC.cs, gdP, gdR]))
        all_goals first
          | exact Round_lit (j + 1) ⟨Le_lit (by simp [LeL, lk]), ⟨by omega, hN⟩, by omega⟩
          | (exfalso; simp only [Fact, Bool.not_eq_true', Bool.not_eq_false', decide_eq_true_eq, decide_eq_false_iff_not, Bool.and_eq_true] at *; rcases F with ⟨F1, F2⟩; first | exact F1 (by assumption) | exact F2 (by assumption))
    have f12 : Fact (decide ((j : Int) < (k : Int)) = false) := by simp only [Fact, Bool.not_eq_true', Bool.not_eq_false', decide_eq_true_eq, decide_eq_false_iff_not]; omega
    obtain rfl : j = k := by omega
    have g5 : Fact (∀ i, i < j + 1 → pathMay (c.ps.getD i default) = true ∧ apartP (c.ps.getD i default) (c.ps.take i) = true) := fun i hi => by
      by_cases e : i = j
      · subst e; exact ⟨hPM, g4⟩
      · exact g2 i (by omega)
    clear g4 g2 sk hj
    simp (disch := omega) only [h1, h2, ↓Ed, Eu, ↓reduceIte, reduceCtorEq, Nat.reduceAdd, Nat.reduceEqDiff, Nat.reduceLT, Nat.reduceLeDiff, Int.reduceToNat, Int.reduceEq, Int.reduceLT, Int.reduceLE, Int.toNat_natCast, al_so, al_al, al_pc, al_rc, al_pst, al_rst, w64, List.length_append, List.length_map, Nat.mul_one, beq_self_eq_true, Lim.cs, PathC.cs, RuleC.cs, gdP, gdR]
    repeat' ((first | refine NewB_intro0 (fun b => ?_) | (refine NewB_intro (fun b hb => ?_); simp only [ln_cons2, ln_nil, and_true] at hb) | (with_reducible apply And.intro; (focus (first | omega | (simp only [Fact, Bool.not_eq_true', Bool.not_eq_false', decide_eq_true_eq, decide_eq_false_iff_not] at *; omega)))) | ((first | refine gW_sp ?_ | refine condW_sp ?_ | refine pickW_sp ?_); (try refine Sp_n ?_); (first | refine Sp_t (by assumption) ?_ | refine Sp_f (by assumption) ?_ | refine Sp_split (fun h => ?_) (fun h => ?_)) <;> (first | have h' := Fact_lt h | have h' := Fact_nlt h | have h' := Fact_le h | have h' := Fact_nle h | skip) <;> (try (exfalso; omega))) | refine TreeW_intro (by rfl) ?_ | refine TreeW_all ?_ | refine upQ_intro ?_ | refine Two_intro ?_ ?_ | (refine leK_lit ?_; (simp [-List.getD_eq_getElem?_getD, LeL, lk, *]; done)) | (refine leK_dd ?_; (simp [-List.getD_eq_getElem?_getD, LeS, LeL, lk, *]; done)) | (simp only [Fact, Bool.not_eq_true', Bool.not_eq_false', decide_eq_true_eq, decide_eq_false_iff_not] at *; refine leK_dd ?_; (simp [-List.getD_eq_getElem?_getD, LeS, LeL, lk, *]; done)) | (show (_ : Nat) ≤ _; omega)) <;> (try simp (disch := omega) only [*, ↓Ed, Eu, ↓reduceIte, reduceCtorEq, Nat.reduceAdd, Nat.reduceEqDiff, Nat.reduceLT, Nat.reduceLeDiff, Int.reduceToNat, Int.reduceEq, Int.reduceLT, Int.reduceLE, Int.toNat_natCast, al_so, al_al, al_pc, al_rc, al_pst, al_rst, w64, List.length_append, List.length_map, Nat.mul_one, beq_self_eq_true, Lim.cs, PathC.cs, RuleC.cs, gdP, gdR]))
    exact Round_lit (j + 1) ⟨Le_lit (by simp [LeL, lk]), ⟨by omega, g5⟩, by omega⟩
  have f11 : Fact (decide ((k : Int) < c.ps.length) = false) := by simp only [Fact, Bool.not_eq_true', Bool.not_eq_false', decide_eq_true_eq, decide_eq_false_iff_not]; omega
  have HP : Fact (pathsQ c.ps) := fun j hj => g2 j (by omega)
  clear g2
  simp (disch := omega) only [h1, h2, ↓Ed, Eu, ↓reduceIte, reduceCtorEq, Nat.reduceAdd, Nat.reduceEqDiff, Nat.reduceLT, Nat.reduceLeDiff, Int.reduceToNat, Int.reduceEq, Int.reduceLT, Int.reduceLE, Int.toNat_natCast, al_so, al_al, al_pc, al_rc, al_pst, al_rst, w64, List.length_append, List.length_map, Nat.mul_one, beq_self_eq_true, Lim.cs, PathC.cs, RuleC.cs, gdP, gdR]
  repeat' ((first | refine NewB_intro0 (fun b => ?_) | (refine NewB_intro (fun b hb => ?_); simp only [ln_cons2, ln_nil, and_true] at hb) | (with_reducible apply And.intro; (focus (first | omega | (simp only [Fact, Bool.not_eq_true', Bool.not_eq_false', decide_eq_true_eq, decide_eq_false_iff_not] at *; omega)))) | ((first | refine gW_sp ?_ | refine condW_sp ?_ | refine pickW_sp ?_); (try refine Sp_n ?_); (first | refine Sp_t (by assumption) ?_ | refine Sp_f (by assumption) ?_ | refine Sp_split (fun h => ?_) (fun h => ?_)) <;> (first | have h' := Fact_lt h | have h' := Fact_nlt h | have h' := Fact_le h | have h' := Fact_nle h | skip) <;> (try (exfalso; omega))) | refine TreeW_intro (by rfl) ?_ | refine TreeW_all ?_ | refine upQ_intro ?_ | refine Two_intro ?_ ?_ | (refine leK_lit ?_; (simp [-List.getD_eq_getElem?_getD, LeL, lk, *]; done)) | (refine leK_dd ?_; (simp [-List.getD_eq_getElem?_getD, LeS, LeL, lk, *]; done)) | (simp only [Fact, Bool.not_eq_true', Bool.not_eq_false', decide_eq_true_eq, decide_eq_false_iff_not] at *; refine leK_dd ?_; (simp [-List.getD_eq_getElem?_getD, LeS, LeL, lk, *]; done)) | (show (_ : Nat) ≤ _; omega)) <;> (try simp (disch := omega) only [*, ↓Ed, Eu, ↓reduceIte, reduceCtorEq, Nat.reduceAdd, Nat.reduceEqDiff, Nat.reduceLT, Nat.reduceLeDiff, Int.reduceToNat, Int.reduceEq, Int.reduceLT, Int.reduceLE, Int.toNat_natCast, al_so, al_al, al_pc, al_rc, al_pst, al_rst, w64, List.length_append, List.length_map, Nat.mul_one, beq_self_eq_true, Lim.cs, PathC.cs, RuleC.cs, gdP, gdR]))
  clear f11 g1 hk
  refine wpx_loop (fun k : Nat => ⟨lk [(1, .ptr b 0), (5, .int .i64 (k : Int))], lk [(b, [.str c.a, .str c.b, .int .i64 c.la.g, .int .i64 c.la.b, .int .i64 c.la.n, .int .i64 c.lb.g, .int .i64 c.lb.b, .int .i64 c.lb.n, p1.store, r1.store, .int .i64 c.iv])]⟩) (fun k => k ≤ c.rs.length ∧ Fact (∀ j, j < k → mayG (c.rs.getD j default).pt = true)) (fun k => c.rs.length - k) 0 ⟨by omega, fun j hj => by omega⟩ (Le_lit (by simp [LeL, lk])) ?_
  rintro k ⟨g1, g2⟩
  by_cases hk : k < c.rs.length
  · have f11 : Fact (decide ((k : Int) < c.rs.length) = true) := by simp only [Fact, Bool.not_eq_true', Bool.not_eq_false', decide_eq_true_eq, decide_eq_false_iff_not]; omega
    have q1 := p_MayGlob (c.rs.getD k default).pt (sr k)
    cases hG : mayG (c.rs.getD k default).pt with
    | false =>
      rw [confMay_f fun g => by have := g.2.2.2.2.2.2.2.2.2 k hk; rw [hG] at this; cases this]
      rw [hG] at q1
      clear hG g2
      simp (disch := omega) only [h1, h2, ↓Ed, Eu, ↓reduceIte, reduceCtorEq, Nat.reduceAdd, Nat.reduceEqDiff, Nat.reduceLT, Nat.reduceLeDiff, Int.reduceToNat, Int.reduceEq, Int.reduceLT, Int.reduceLE, Int.toNat_natCast, al_so, al_al, al_pc, al_rc, al_pst, al_rst, w64, List.length_append, List.length_map, Nat.mul_one, beq_self_eq_true, Lim.cs, PathC.cs, RuleC.cs, gdP, gdR]
      repeat' ((first | refine CallO_pure (q1) ?_ | refine NewB_intro0 (fun b => ?_) | (refine NewB_intro (fun b hb => ?_); simp only [ln_cons2, ln_nil, and_true] at hb) | (with_reducible apply And.intro; (focus (first | omega | (simp only [Fact, Bool.not_eq_true', Bool.not_eq_false', decide_eq_true_eq, decide_eq_false_iff_not] at *; omega)))) | ((first | refine gW_sp ?_ | refine condW_sp ?_ | refine pickW_sp ?_); (try refine Sp_n ?_); (first | refine Sp_t (by assumption) ?_ | refine Sp_f (by assumption) ?_ | refine Sp_split (fun h => ?_) (fun h => ?_)) <;> (first | have h' := Fact_lt h | have h' := Fact_nlt h | have h' := Fact_le h | have h' := Fact_nle h | skip) <;> (try (exfalso; omega))) | refine TreeW_intro (by rfl) ?_ | refine TreeW_all ?_ | refine upQ_intro ?_ | refine Two_intro ?_ ?_ | (refine leK_lit ?_; (simp [-List.getD_eq_getElem?_getD, LeL, lk, *]; done)) | (refine leK_dd ?_; (simp [-List.getD_eq_getElem?_getD, LeS, LeL, lk, *]; done)) | (simp only [Fact, Bool.not_eq_true', Bool.not_eq_false', decide_eq_true_eq, decide_eq_false_iff_not] at *; refine leK_dd ?_; (simp [-List.getD_eq_getElem?_getD, LeS, LeL, lk, *]; done)) | (show (_ : Nat) ≤ _; omega)) <;> (try simp (disch := omega) only [*, ↓Ed, Eu, ↓reduceIte, reduceCtorEq, Nat.reduceAdd, Nat.reduceEqDiff, Nat.reduceLT, Nat.reduceLeDiff, Int.reduceToNat, Int.reduceEq, Int.reduceLT, Int.reduceLE, Int.toNat_natCast, al_so, al_al, al_pc, al_rc, al_pst, al_rst, w64, List.length_append, List.length_map, Nat.mul_one, beq_self_eq_true, Lim.cs, PathC.cs, RuleC.cs, gdP, gdR]))
    | true =>
      have g5 : Fact (∀ j, j < k + 1 → mayG (c.rs.getD j default).pt = true) := fun j hj => by
        by_cases e : j = k
        · subst e; exact hG
        · exact g2 j (by omega)
      rw [hG] at q1
      clear hG g2
      simp (disch := omega) only [h1, h2, ↓Ed, Eu, ↓reduceIte, reduceCtorEq, Nat.reduceAdd, Nat.reduceEqDiff, Nat.reduceLT, Nat.reduceLeDiff, Int.reduceToNat, Int.reduceEq, Int.reduceLT, Int.reduceLE, Int.toNat_natCast, al_so, al_al, al_pc, al_rc, al_pst, al_rst, w64, List.length_append, List.length_map, Nat.mul_one, beq_self_eq_true, Lim.cs, PathC.cs, RuleC.cs, gdP, gdR]
      repeat' ((first | refine CallO_pure (q1) ?_ | refine NewB_intro0 (fun b => ?_) | (refine NewB_intro (fun b hb => ?_); simp only [ln_cons2, ln_nil, and_true] at hb) | (with_reducible apply And.intro; (focus (first | omega | (simp only [Fact, Bool.not_eq_true', Bool.not_eq_false', decide_eq_true_eq, decide_eq_false_iff_not] at *; omega)))) | ((first | refine gW_sp ?_ | refine condW_sp ?_ | refine pickW_sp ?_); (try refine Sp_n ?_); (first | refine Sp_t (by assumption) ?_ | refine Sp_f (by assumption) ?_ | refine Sp_split (fun h => ?_) (fun h => ?_)) <;> (first | have h' := Fact_lt h | have h' := Fact_nlt h | have h' := Fact_le h | have h' := Fact_nle h | skip) <;> (try (exfalso; omega))) | refine TreeW_intro (by rfl) ?_ | refine TreeW_all ?_ | refine upQ_intro ?_ | refine Two_intro ?_ ?_ | (refine leK_lit ?_; (simp [-List.getD_eq_getElem?_getD, LeL, lk, *]; done)) | (refine leK_dd ?_; (simp [-List.getD_eq_getElem?_getD, LeS, LeL, lk, *]; done)) | (simp only [Fact, Bool.not_eq_true', Bool.not_eq_false', decide_eq_true_eq, decide_eq_false_iff_not] at *; refine leK_dd ?_; (simp [-List.getD_eq_getElem?_getD, LeS, LeL, lk, *]; done)) | (show (_ : Nat) ≤ _; omega)) <;> (try simp (disch := omega) only [*, ↓Ed, Eu, ↓reduceIte, reduceCtorEq, Nat.reduceAdd, Nat.reduceEqDiff, Nat.reduceLT, Nat.reduceLeDiff, Int.reduceToNat, Int.reduceEq, Int.reduceLT, Int.reduceLE, Int.toNat_natCast, al_so, al_al, al_pc, al_rc, al_pst, al_rst, w64, List.length_append, List.length_map, Nat.mul_one, beq_self_eq_true, Lim.cs, PathC.cs, RuleC.cs, gdP, gdR]))
      exact Round_lit (k + 1) ⟨Le_lit (by simp [LeL, lk]), ⟨by omega, g5⟩, by omega⟩
  have f11 : Fact (decide ((k : Int) < c.rs.length) = false) := by simp only [Fact, Bool.not_eq_true', Bool.not_eq_false', decide_eq_true_eq, decide_eq_false_iff_not]; omega
  have HR : rulesQ c.rs := fun j hj => g2 j (by omega)
  rw [confMay_t (HQ HP HR)]
  clear g2 HR
  simp (disch := omega) only [h1, h2, ↓Ed, Eu, ↓reduceIte, reduceCtorEq, Nat.reduceAdd, Nat.reduceEqDiff, Nat.reduceLT, Nat.reduceLeDiff, Int.reduceToNat, Int.reduceEq, Int.reduceLT, Int.reduceLE, Int.toNat_natCast, al_so, al_al, al_pc, al_rc, al_pst, al_rst, w64, List.length_append, List.length_map, Nat.mul_one, beq_self_eq_true, Lim.cs, PathC.cs, RuleC.cs, gdP, gdR]
  repeat' ((first | refine NewB_intro0 (fun b => ?_) | (refine NewB_intro (fun b hb => ?_); simp only [ln_cons2, ln_nil, and_true] at hb) | (with_reducible apply And.intro; (focus (first | omega | (simp only [Fact, Bool.not_eq_true', Bool.not_eq_false', decide_eq_true_eq, decide_eq_false_iff_not] at *; omega)))) | ((first | refine gW_sp ?_ | refine condW_sp ?_ | refine pickW_sp ?_); (try refine Sp_n ?_); (first | refine Sp_t (by assumption) ?_ | refine Sp_f (by assumption) ?_ | refine Sp_split (fun h => ?_) (fun h => ?_)) <;> (first | have h' := Fact_lt h | have h' := Fact_nlt h | have h' := Fact_le h | have h' := Fact_nle h | skip) <;> (try (exfalso; omega))) | refine TreeW_intro (by rfl) ?_ | refine TreeW_all ?_ | refine upQ_intro ?_ | refine Two_intro ?_ ?_ | (refine leK_lit ?_; (simp [-List.getD_eq_getElem?_getD, LeL, lk, *]; done)) | (refine leK_dd ?_; (simp [-List.getD_eq_getElem?_getD, LeS, LeL, lk, *]; done)) | (simp only [Fact, Bool.not_eq_true', Bool.not_eq_false', decide_eq_true_eq, decide_eq_false_iff_not] at *; refine leK_dd ?_; (simp [-List.getD_eq_getElem?_getD, LeS, LeL, lk, *]; done)) | (show (_ : Nat) ≤ _; omega)) <;> (try simp (disch := omega) only [*, ↓Ed, Eu, ↓reduceIte, reduceCtorEq, Nat.reduceAdd, Nat.reduceEqDiff, Nat.reduceLT, Nat.reduceLeDiff, Int.reduceToNat, Int.reduceEq, Int.reduceLT, Int.reduceLE, Int.toNat_natCast, al_so, al_al, al_pc, al_rc, al_pst, al_rst, w64, List.length_append, List.length_map, Nat.mul_one, beq_self_eq_true, Lim.cs, PathC.cs, RuleC.cs, gdP, gdR]))
end Go.Proofs.YtlefegihikpilaaDoor

/- maps keyed by a type with decided equality: where a key is -/
namespace Go.Proofs.YtlefegihikpilaaDoor
set_option linter.all false
open Go.RowKit
theorem findK_map {α : Type} [DecidableEq α] (ks : List Kd) (ag : Bool) (κ : α → AV) (h : ∀ a b, keyEq ks ag (κ a) (κ b) = some (decide (a = b))) (a : α) (l : List α) : ∀ i, findK ks ag (κ a) (l.map κ) i = some ((l.idxOf? a).map (· + i)) := by
  induction l with
  | nil => intro i; rfl
  | cons x r ih =>
    intro i
    simp only [List.map_cons, findK, h, List.idxOf?_cons]
    by_cases hx : a = x
    · subst hx; simp
    · have hx2 : (x == a) = false := by simp [Ne.symm hx]
      simp only [hx, decide_false, ih, hx2]
      cases r.idxOf? a <;> simp <;> omega
theorem findM_map {α : Type} [DecidableEq α] (ks : List Kd) (ag : Bool) (κ : α → AV) (h : ∀ a b, keyEq ks ag (κ a) (κ b) = some (decide (a = b))) (a : α) (l : List α) : findM ks ag (κ a) (l.map κ) = some (l.idxOf? a) := by
  simp only [findM, h, Option.bind_some, findK_map ks ag κ h]
  cases l.idxOf? a <;> simp
theorem findM_no {α : Type} [DecidableEq α] (ks : List Kd) (ag : Bool) (κ : α → AV) (h : ∀ a b, keyEq ks ag (κ a) (κ b) = some (decide (a = b))) (a : α) (l : List α) (hn : a ∉ l) : findM ks ag (κ a) (l.map κ) = some none := by
  rw [findM_map ks ag κ h, List.idxOf?_eq_none_iff.2 hn]
theorem findM_snoc {α : Type} [DecidableEq α] (ks : List Kd) (ag : Bool) (κ : α → AV) (h : ∀ a b, keyEq ks ag (κ a) (κ b) = some (decide (a = b))) (a : α) (l : List α) (hn : a ∉ l) : findM ks ag (κ a) (l.map κ ++ [κ a]) = some (some l.length) := by
  have := findM_map ks ag κ h a (l ++ [a])
  rw [List.map_append, List.map_singleton] at this
  rw [this]
  congr 1
  induction l with
  | nil => simp [List.idxOf?_cons]
  | cons x r ih =>
    simp only [List.mem_cons, not_or] at hn
    have hx : (x == a) = false := by simp [Ne.symm hn.1]
    have ih' := ih hn.2 (by rw [findM_map ks ag κ h a (r ++ [a]) |>.symm]; simp)
    simp only [List.cons_append, List.idxOf?_cons, hx, ih', List.length_cons]
    simp
theorem snoc_set {α : Type} (l : List α) (z v : α) (k : Nat) (h : l.length = k) : (l ++ [z]).set k v = l ++ [v] := by
  rw [List.set_append_right _ _ (by omega)]; simp [h]
theorem snoc_get {α : Type} (l : List α) (z d : α) (k : Nat) (h : l.length = k) : (l ++ [z]).getD k d = z := by
  simp [List.getD, ← h]
theorem findB_app (bs : List Nat) (n : Nat) (hn : n ∉ bs) : ∀ i, findB (n : Int) (bs ++ [n]) i = some (bs.length + i) := by
  induction bs with
  | nil => intro i; simp [findB]
  | cons b r ih =>
    intro i
    simp only [List.mem_cons, not_or] at hn
    have hb : ¬ (b : Int) = n := by omega
    simp only [List.cons_append, findB, hb, if_false, ih hn.2, List.length_cons]
    congr 1; omega
theorem findB_range (k i : Nat) : findB (k : Int) (List.range k ++ [k]) i = some (k + i) := by
  have := findB_app (List.range k) k (by simp) i
  simpa using this
/-- Keys of two words: a text and a number. -/
def endK (e : List UInt8 × Int) : AV := .agg [.str e.1, .int .i64 e.2]
theorem endK_eq (a b : List UInt8 × Int) : keyEq [.s, .i] true (endK a) (endK b) = some (decide (a = b)) := by
  obtain ⟨x, y⟩ := a; obtain ⟨z, w⟩ := b
  simp [endK, keyEq, eqC, eq1, Prod.ext_iff]
end Go.Proofs.YtlefegihikpilaaDoor

/- ends.Check: what a chain may begin with -/
namespace Go.Proofs.YtlefegihikpilaaDoor
set_option linter.all false
open Go.RowKit
set_option maxRecDepth 100000
structure GenC where
  ap : List UInt8
  ac : Int
  bp : List UInt8
  bc : Int
  o : Bool
  n : Int
  deriving DecidableEq, Inhabited
abbrev GenC.cs (g : GenC) : List AV := [.str g.ap, .int .i64 g.ac, .str g.bp, .int .i64 g.bc, .bool g.o, .int .i64 g.n]
def gens (l : List GenC) : List (List AV) := l.map GenC.cs
theorem gdG (l : List GenC) (i : Nat) (h : i < l.length) : (gens l).getD i [] = (l.getD i default).cs := by
  simp [gens, List.getD, h]
def owns (l : List GenC) : List (List UInt8 × Int) := l.map fun g => (g.ap, g.ac)
theorem ones_set (k : Nat) : (List.replicate k (AV.int .i64 1) ++ [AV.int .i64 0]).set k (.int .i64 1) = List.replicate (k + 1) (.int .i64 1) := by
  rw [snoc_set _ _ _ _ (by simp), List.replicate_succ']
theorem ones_get (k : Nat) : (List.replicate k (AV.int .i64 1) ++ [AV.int .i64 0]).getD k .undef = AV.int .i64 0 := snoc_get _ _ _ _ (by simp)
theorem range_get (k : Nat) : List.range k ++ [k] = List.range (k + 1) := List.range_succ.symm
theorem p_counted (n : Int) (h1 : 1 ≤ n) (h2 : n ≤ 1099511627777) : CP Tryd.prog 42 [.int .i64 n] (.bool true) := by
  refine ok_ends_counted _ _ (by simp) ?_
  simp only [c_ends_counted, ↓Ed, Eu, ↓reduceIte, reduceCtorEq, Nat.reduceAdd, Nat.reduceEqDiff, Nat.reduceLT, Nat.reduceLeDiff, Int.reduceToNat, Int.reduceEq, Int.reduceLT, Int.reduceLE, w64, List.length_append, List.length_map, Nat.mul_one, beq_self_eq_true, GenC.cs, gdG, findB_range, ones_set, ones_get, Int.reduceAdd]
  repeat' ((first | refine NewB_intro0 (fun b => ?_) | (refine NewB_intro (fun b hb => ?_); simp only [ln_cons2, ln_nil, and_true] at hb) | (with_reducible apply And.intro; (focus (first | omega | (simp only [Fact, Bool.not_eq_true', Bool.not_eq_false', decide_eq_true_eq, decide_eq_false_iff_not] at *; omega)))) | ((first | refine gW_sp ?_ | refine condW_sp ?_ | refine pickW_sp ?_); (try refine Sp_n ?_); (first | refine Sp_t (by assumption) ?_ | refine Sp_f (by assumption) ?_ | refine Sp_split (fun h => ?_) (fun h => ?_)) <;> (first | have h' := Fact_lt h | have h' := Fact_nlt h | have h' := Fact_le h | have h' := Fact_nle h | skip) <;> (try (exfalso; omega))) | refine TreeW_intro (by rfl) ?_ | refine TreeW_all ?_ | refine upQ_intro ?_ | refine Two_intro ?_ ?_ | (refine leK_lit ?_; (simp [-List.getD_eq_getElem?_getD, LeL, lk, *]; done)) | (refine leK_dd ?_; (simp [-List.getD_eq_getElem?_getD, LeS, LeL, lk, *]; done)) | (simp only [Fact, Bool.not_eq_true', Bool.not_eq_false', decide_eq_true_eq, decide_eq_false_iff_not] at *; refine leK_dd ?_; (simp [-List.getD_eq_getElem?_getD, LeS, LeL, lk, *]; done)) | (show (_ : Nat) ≤ _; omega)) <;> (try simp (disch := omega) only [*, ↓Ed, Eu, ↓reduceIte, reduceCtorEq, Nat.reduceAdd, Nat.reduceEqDiff, Nat.reduceLT, Nat.reduceLeDiff, Int.reduceToNat, Int.reduceEq, Int.reduceLT, Int.reduceLE, w64, List.length_append, List.length_map, Nat.mul_one, beq_self_eq_true, GenC.cs, gdG, findB_range, ones_set, ones_get, Int.reduceAdd]))
  all_goals (try simp only [Fact, Bool.not_eq_true', Bool.not_eq_false', decide_eq_true_eq, decide_eq_false_iff_not] at *)
abbrev ownK (g : GenC) : AV := endK (g.ap, g.ac)
theorem take_own (l : List GenC) (k : Nat) (hk : k < l.length) : ((owns l).take (k + 1)).map endK = ((owns l).take k).map endK ++ [.agg [.str (l.getD k default).ap, .int .i64 (l.getD k default).ac]] := by
  have : (owns l)[k]? = some ((l.getD k default).ap, (l.getD k default).ac) := by simp [owns, List.getD, hk]
  rw [List.take_add_one, this]; simp [endK]
set_option maxHeartbeats 4000000 in
theorem p_Check (l : List GenC) (g : AV) (hg : g.alias = .sl none 6 (gens l)) (hl : l.length ≤ 6) (hq : ∀ i, i < l.length → mayP (l.getD i default).ap (l.getD i default).ac = true ∧ mayP (l.getD i default).bp (l.getD i default).bc = true ∧ 1 ≤ (l.getD i default).n ∧ (l.getD i default).n ≤ 1099511627777)
    (hs : ∀ i, (l.getD i default).ap.length ≤ 1000000 ∧ (l.getD i default).bp.length ≤ 1000000) (hd : ∀ i, i < l.length → ((l.getD i default).ap, (l.getD i default).ac) ∉ (owns l).take i) : CP Tryd.prog 21 [g] (.int .i64 0) := by
  refine ok_ends_Check _ _ (by simp) ?_
  have hlen : (gens l).length = l.length := by simp [gens]
  have f1 : Fact (decide (6 < (l.length : Int)) = false) := by simp only [Fact, Bool.not_eq_true', Bool.not_eq_false', decide_eq_true_eq, decide_eq_false_iff_not]; omega
  simp only [c_ends_Check, hg, hlen, ↓Ed, Eu, ↓reduceIte, reduceCtorEq, Nat.reduceAdd, Nat.reduceEqDiff, Nat.reduceLT, Nat.reduceLeDiff, Int.reduceToNat, Int.reduceEq, Int.reduceLT, Int.reduceLE, w64, List.length_append, List.length_map, Nat.mul_one, beq_self_eq_true, GenC.cs, gdG, findB_range, ones_set, ones_get, Int.reduceAdd]
  repeat' ((first | refine NewB_intro0 (fun b => ?_) | (refine NewB_intro (fun b hb => ?_); simp only [ln_cons2, ln_nil, and_true] at hb) | (with_reducible apply And.intro; (focus (first | omega | (simp only [Fact, Bool.not_eq_true', Bool.not_eq_false', decide_eq_true_eq, decide_eq_false_iff_not] at *; omega)))) | ((first | refine gW_sp ?_ | refine condW_sp ?_ | refine pickW_sp ?_); (try refine Sp_n ?_); (first | refine Sp_t (by assumption) ?_ | refine Sp_f (by assumption) ?_ | refine Sp_split (fun h => ?_) (fun h => ?_)) <;> (first | have h' := Fact_lt h | have h' := Fact_nlt h | have h' := Fact_le h | have h' := Fact_nle h | skip) <;> (try (exfalso; omega))) | refine TreeW_intro (by rfl) ?_ | refine TreeW_all ?_ | refine upQ_intro ?_ | refine Two_intro ?_ ?_ | (refine leK_lit ?_; (simp [-List.getD_eq_getElem?_getD, LeL, lk, *]; done)) | (refine leK_dd ?_; (simp [-List.getD_eq_getElem?_getD, LeS, LeL, lk, *]; done)) | (simp only [Fact, Bool.not_eq_true', Bool.not_eq_false', decide_eq_true_eq, decide_eq_false_iff_not] at *; refine leK_dd ?_; (simp [-List.getD_eq_getElem?_getD, LeS, LeL, lk, *]; done)) | (show (_ : Nat) ≤ _; omega)) <;> (try simp (disch := omega) only [*, ↓Ed, Eu, ↓reduceIte, reduceCtorEq, Nat.reduceAdd, Nat.reduceEqDiff, Nat.reduceLT, Nat.reduceLeDiff, Int.reduceToNat, Int.reduceEq, Int.reduceLT, Int.reduceLE, w64, List.length_append, List.length_map, Nat.mul_one, beq_self_eq_true, GenC.cs, gdG, findB_range, ones_set, ones_get, Int.reduceAdd]))
  refine wpx_loop (fun k : Nat => ⟨lk [(3, .mapv b), (10, .sl none 6 (gens l)), (11, .int .i64 l.length), (12, .int .i64 (k : Int))], lk [(b, [.mp (((owns l).take k).map endK) (List.replicate k (.int .i64 1)) (List.range k) k])]⟩) (fun k => k ≤ l.length) (fun k => l.length - k) 0 (by omega) (Le_lit (by simp [LeL, lk])) ?_
  intro k g1
  by_cases hk : k < l.length
  · have f5 : Fact (decide ((k : Int) < l.length) = true) := by simp only [Fact, Bool.not_eq_true', Bool.not_eq_false', decide_eq_true_eq, decide_eq_false_iff_not]; omega
    obtain ⟨q1, q2, q3, q4⟩ := hq k hk
    obtain ⟨s1, s2⟩ := hs k
    have hA := p_pMay (l.getD k default).ap (l.getD k default).ac (by omega)
    have hB := p_pMay (l.getD k default).bp (l.getD k default).bc (by omega)
    have hC := p_counted _ q3 q4
    have hf : findM [.s, .i] true (.agg [.str (l.getD k default).ap, .int .i64 (l.getD k default).ac]) (((owns l).take k).map endK) = some none := findM_no _ _ endK endK_eq _ _ (hd k hk)
    have hf2 : findM [.s, .i] true (.agg [.str (l.getD k default).ap, .int .i64 (l.getD k default).ac]) (((owns l).take k).map endK ++ [.agg [.str (l.getD k default).ap, .int .i64 (l.getD k default).ac]]) = some (some k) := by
      have := findM_snoc [.s, .i] true endK endK_eq _ _ (hd k hk)
      rwa [show ((owns l).take k).length = k by simp [owns]; omega] at this
    rw [q1] at hA
    rw [q2] at hB
    clear hq hs hd q1 q2 q3 q4
    simp (disch := omega) only [hf, hlen, findB_range, ones_set, ↓Ed, Eu, ↓reduceIte, reduceCtorEq, Nat.reduceAdd, Nat.reduceEqDiff, Nat.reduceLT, Nat.reduceLeDiff, Int.reduceToNat, Int.reduceEq, Int.reduceLT, Int.reduceLE, w64, List.length_append, List.length_map, Nat.mul_one, beq_self_eq_true, GenC.cs, gdG, findB_range, ones_set, ones_get, Int.reduceAdd]
    repeat' ((first | refine CallO_pure (hA) ?_ | refine CallO_pure (hB) ?_ | refine CallO_pure (hC) ?_ | refine NewB_intro0 (fun b => ?_) | (refine NewB_intro (fun b hb => ?_); simp only [ln_cons2, ln_nil, and_true] at hb) | (with_reducible apply And.intro; (focus (first | omega | (simp only [Fact, Bool.not_eq_true', Bool.not_eq_false', decide_eq_true_eq, decide_eq_false_iff_not] at *; omega)))) | ((first | refine gW_sp ?_ | refine condW_sp ?_ | refine pickW_sp ?_); (try refine Sp_n ?_); (first | refine Sp_t (by assumption) ?_ | refine Sp_f (by assumption) ?_ | refine Sp_split (fun h => ?_) (fun h => ?_)) <;> (first | have h' := Fact_lt h | have h' := Fact_nlt h | have h' := Fact_le h | have h' := Fact_nle h | skip) <;> (try (exfalso; omega))) | refine TreeW_intro (by rfl) ?_ | refine TreeW_all ?_ | refine upQ_intro ?_ | refine Two_intro ?_ ?_ | (refine leK_lit ?_; (simp [-List.getD_eq_getElem?_getD, LeL, lk, *]; done)) | (refine leK_dd ?_; (simp [-List.getD_eq_getElem?_getD, LeS, LeL, lk, *]; done)) | (simp only [Fact, Bool.not_eq_true', Bool.not_eq_false', decide_eq_true_eq, decide_eq_false_iff_not] at *; refine leK_dd ?_; (simp [-List.getD_eq_getElem?_getD, LeS, LeL, lk, *]; done)) | (show (_ : Nat) ≤ _; omega)) <;> (try simp (disch := omega) only [*, ↓Ed, Eu, ↓reduceIte, reduceCtorEq, Nat.reduceAdd, Nat.reduceEqDiff, Nat.reduceLT, Nat.reduceLeDiff, Int.reduceToNat, Int.reduceEq, Int.reduceLT, Int.reduceLE, w64, List.length_append, List.length_map, Nat.mul_one, beq_self_eq_true, GenC.cs, gdG, findB_range, ones_set, ones_get, Int.reduceAdd]))
    exact Round_lit (k + 1) ⟨Le_lit (by simp [LeL, lk, take_own l k hk, range_get]), by omega, by omega⟩
  have f5 : Fact (decide ((k : Int) < l.length) = false) := by simp only [Fact, Bool.not_eq_true', Bool.not_eq_false', decide_eq_true_eq, decide_eq_false_iff_not]; omega
  simp (disch := omega) only [↓Ed, Eu, ↓reduceIte, reduceCtorEq, Nat.reduceAdd, Nat.reduceEqDiff, Nat.reduceLT, Nat.reduceLeDiff, Int.reduceToNat, Int.reduceEq, Int.reduceLT, Int.reduceLE, w64, List.length_append, List.length_map, Nat.mul_one, beq_self_eq_true, GenC.cs, gdG, findB_range, ones_set, ones_get, Int.reduceAdd]
  repeat' ((first | refine NewB_intro0 (fun b => ?_) | (refine NewB_intro (fun b hb => ?_); simp only [ln_cons2, ln_nil, and_true] at hb) | (with_reducible apply And.intro; (focus (first | omega | (simp only [Fact, Bool.not_eq_true', Bool.not_eq_false', decide_eq_true_eq, decide_eq_false_iff_not] at *; omega)))) | ((first | refine gW_sp ?_ | refine condW_sp ?_ | refine pickW_sp ?_); (try refine Sp_n ?_); (first | refine Sp_t (by assumption) ?_ | refine Sp_f (by assumption) ?_ | refine Sp_split (fun h => ?_) (fun h => ?_)) <;> (first | have h' := Fact_lt h | have h' := Fact_nlt h | have h' := Fact_le h | have h' := Fact_nle h | skip) <;> (try (exfalso; omega))) | refine TreeW_intro (by rfl) ?_ | refine TreeW_all ?_ | refine upQ_intro ?_ | refine Two_intro ?_ ?_ | (refine leK_lit ?_; (simp [-List.getD_eq_getElem?_getD, LeL, lk, *]; done)) | (refine leK_dd ?_; (simp [-List.getD_eq_getElem?_getD, LeS, LeL, lk, *]; done)) | (simp only [Fact, Bool.not_eq_true', Bool.not_eq_false', decide_eq_true_eq, decide_eq_false_iff_not] at *; refine leK_dd ?_; (simp [-List.getD_eq_getElem?_getD, LeS, LeL, lk, *]; done)) | (show (_ : Nat) ≤ _; omega)) <;> (try simp (disch := omega) only [*, ↓Ed, Eu, ↓reduceIte, reduceCtorEq, Nat.reduceAdd, Nat.reduceEqDiff, Nat.reduceLT, Nat.reduceLeDiff, Int.reduceToNat, Int.reduceEq, Int.reduceLT, Int.reduceLE, w64, List.length_append, List.length_map, Nat.mul_one, beq_self_eq_true, GenC.cs, gdG, findB_range, ones_set, ones_get, Int.reduceAdd]))
end Go.Proofs.YtlefegihikpilaaDoor
