import Derived.Test.YtbjmcmgekcmbpaaDoorK16
import Derived.Test.YtbjmcmgekcmbpaaDoorK7
/- chapter 21: the program's parser: line; Parse -/
namespace Go.Proofs.YtbjmcmgekcmbpaaDoor
set_option linter.all false
open Go.RowKit
set_option maxRecDepth 100000
theorem p_cline (b : Nat) (x : PS) (w : List (List UInt8)) (hw : ∀ i, (w.getD i []).length ≤ 1000) (hl : w.length ≤ 1000) (hr : x.c.rs.length ≤ 32) (hp : x.c.ps.length ≤ 6) :
    CT Tryd.prog 20 [.ptr b 0, .sl none 1 (strs w)] (lk [(b, psC x)]) (fun r o => r = .int .i64 (lineW x w).2 ∧ o = lk [(b, psC (lineW x w).1)]) := by
  have hm : maxLen = 9223372036854775807 := rfl
  refine okt_conf_parser_line _ _ _ (by simp) ?_
  have t1 := p_chain b x w hw hl
  have t2 := p_path b x w hw hl hp
  have t3 := p_rule b x w hw hl hr
  have t4 := p_every b x w hw hl
  unfold lineW
  by_cases h1 : w.length = 0
  · rw [if_pos h1]
    have f1 : Fact (decide ((w.length : Int) = 0) = true) := by simp only [Fact, Bool.not_eq_true', Bool.not_eq_false', decide_eq_true_eq, decide_eq_false_iff_not]; omega
    clear h1
    simp only [c_conf_parser_line, ↓Ed, Eu, ↓reduceIte, reduceCtorEq, Nat.reduceAdd, Nat.reduceEqDiff, Nat.reduceLT, Nat.reduceLeDiff, Int.reduceToNat, Int.reduceEq, Int.reduceLT, Int.reduceLE, gdS, al_pc, al_rc, so_pc, so_rc, so_pst, so_rst, rc_nil, rc_cons, pc_nil, pc_cons, psC, w64, List.length_append, List.length_map, Nat.mul_one, beq_self_eq_true, PathC.cs, RuleC.cs, gdP, gdR]
    repeat' ((first | refine NewB_intro0 (fun b => ?_) | (refine NewB_intro (fun b hb => ?_); simp only [ln_cons2, ln_nil, and_true] at hb) | (with_reducible apply And.intro; (focus (first | omega | (simp only [Fact, Bool.not_eq_true', Bool.not_eq_false', decide_eq_true_eq, decide_eq_false_iff_not] at *; omega)))) | ((first | refine gW_sp ?_ | refine condW_sp ?_ | refine pickW_sp ?_); (try refine Sp_n ?_); (first | refine Sp_t (by assumption) ?_ | refine Sp_f (by assumption) ?_ | refine Sp_split (fun h => ?_) (fun h => ?_)) <;> (first | have h' := Fact_lt h | have h' := Fact_nlt h | have h' := Fact_le h | have h' := Fact_nle h | skip) <;> (try (exfalso; omega))) | refine TreeW_intro (by rfl) ?_ | refine TreeW_all ?_ | refine upQ_intro ?_ | refine Two_intro ?_ ?_ | (refine leK_lit ?_; (simp [-List.getD_eq_getElem?_getD, LeL, lk, *]; done)) | (refine leK_dd ?_; (simp [-List.getD_eq_getElem?_getD, LeS, LeL, lk, *]; done)) | (simp only [Fact, Bool.not_eq_true', Bool.not_eq_false', decide_eq_true_eq, decide_eq_false_iff_not] at *; refine leK_dd ?_; (simp [-List.getD_eq_getElem?_getD, LeS, LeL, lk, *]; done)) | (show (_ : Nat) ≤ _; omega)) <;> (try simp (disch := omega) only [*, ↓Ed, Eu, ↓reduceIte, reduceCtorEq, Nat.reduceAdd, Nat.reduceEqDiff, Nat.reduceLT, Nat.reduceLeDiff, Int.reduceToNat, Int.reduceEq, Int.reduceLT, Int.reduceLE, gdS, al_pc, al_rc, so_pc, so_rc, so_pst, so_rst, rc_nil, rc_cons, pc_nil, pc_cons, psC, w64, List.length_append, List.length_map, Nat.mul_one, beq_self_eq_true, PathC.cs, RuleC.cs, gdP, gdR]))
    exact ro_mk (by simp [LeL, lk, resR, arR]) dom1
  have f1 : Fact (decide ((w.length : Int) = 0) = false) := by simp only [Fact, Bool.not_eq_true', Bool.not_eq_false', decide_eq_true_eq, decide_eq_false_iff_not]; omega
  have g1 : 1 ≤ w.length := by omega
  rw [if_neg h1]
  clear h1
  by_cases h2 : w.getD 0 [] = [99, 104, 97, 105, 110]
  · have f2 : Fact (decide (w.getD 0 [] = [99, 104, 97, 105, 110]) = true) := decide_eq_true h2
    rw [if_pos h2]
    clear h2
    simp only [c_conf_parser_line, ↓Ed, Eu, ↓reduceIte, reduceCtorEq, Nat.reduceAdd, Nat.reduceEqDiff, Nat.reduceLT, Nat.reduceLeDiff, Int.reduceToNat, Int.reduceEq, Int.reduceLT, Int.reduceLE, gdS, al_pc, al_rc, so_pc, so_rc, so_pst, so_rst, rc_nil, rc_cons, pc_nil, pc_cons, psC, w64, List.length_append, List.length_map, Nat.mul_one, beq_self_eq_true, PathC.cs, RuleC.cs, gdP, gdR]
    repeat' ((first | (refine' CallO_det (t1) (lk_sub1 ?_) ?_; rotate_right 2; (focus ((repeat (first | exact lk_hd _ _ _ | (refine lk_tl ?_ ?_; (focus (first | assumption | (simp only [*, not_false_eq_true]; done)))))); done))) | refine NewB_intro0 (fun b => ?_) | (refine NewB_intro (fun b hb => ?_); simp only [ln_cons2, ln_nil, and_true] at hb) | (with_reducible apply And.intro; (focus (first | omega | (simp only [Fact, Bool.not_eq_true', Bool.not_eq_false', decide_eq_true_eq, decide_eq_false_iff_not] at *; omega)))) | ((first | refine gW_sp ?_ | refine condW_sp ?_ | refine pickW_sp ?_); (try refine Sp_n ?_); (first | refine Sp_t (by assumption) ?_ | refine Sp_f (by assumption) ?_ | refine Sp_split (fun h => ?_) (fun h => ?_)) <;> (first | have h' := Fact_lt h | have h' := Fact_nlt h | have h' := Fact_le h | have h' := Fact_nle h | skip) <;> (try (exfalso; omega))) | refine TreeW_intro (by rfl) ?_ | refine TreeW_all ?_ | refine upQ_intro ?_ | refine Two_intro ?_ ?_ | (refine leK_lit ?_; (simp [-List.getD_eq_getElem?_getD, LeL, lk, *]; done)) | (refine leK_dd ?_; (simp [-List.getD_eq_getElem?_getD, LeS, LeL, lk, *]; done)) | (simp only [Fact, Bool.not_eq_true', Bool.not_eq_false', decide_eq_true_eq, decide_eq_false_iff_not] at *; refine leK_dd ?_; (simp [-List.getD_eq_getElem?_getD, LeS, LeL, lk, *]; done)) | (show (_ : Nat) ≤ _; omega)) <;> (try simp (disch := omega) only [*, ↓Ed, Eu, ↓reduceIte, reduceCtorEq, Nat.reduceAdd, Nat.reduceEqDiff, Nat.reduceLT, Nat.reduceLeDiff, Int.reduceToNat, Int.reduceEq, Int.reduceLT, Int.reduceLE, gdS, al_pc, al_rc, so_pc, so_rc, so_pst, so_rst, rc_nil, rc_cons, pc_nil, pc_cons, psC, w64, List.length_append, List.length_map, Nat.mul_one, beq_self_eq_true, PathC.cs, RuleC.cs, gdP, gdR]))
    exact ro_mk (by simp [LeL, lk, resR, arR]) dom1
  have f2 : Fact (decide (w.getD 0 [] = [99, 104, 97, 105, 110]) = false) := decide_eq_false h2
  rw [if_neg h2]
  clear h2
  by_cases h3 : w.getD 0 [] = [112, 97, 116, 104]
  · have f3 : Fact (decide (w.getD 0 [] = [112, 97, 116, 104]) = true) := decide_eq_true h3
    rw [if_pos h3]
    clear h3
    simp only [c_conf_parser_line, ↓Ed, Eu, ↓reduceIte, reduceCtorEq, Nat.reduceAdd, Nat.reduceEqDiff, Nat.reduceLT, Nat.reduceLeDiff, Int.reduceToNat, Int.reduceEq, Int.reduceLT, Int.reduceLE, gdS, al_pc, al_rc, so_pc, so_rc, so_pst, so_rst, rc_nil, rc_cons, pc_nil, pc_cons, psC, w64, List.length_append, List.length_map, Nat.mul_one, beq_self_eq_true, PathC.cs, RuleC.cs, gdP, gdR]
    repeat' ((first | (refine' CallO_det (t2) (lk_sub1 ?_) ?_; rotate_right 2; (focus ((repeat (first | exact lk_hd _ _ _ | (refine lk_tl ?_ ?_; (focus (first | assumption | (simp only [*, not_false_eq_true]; done)))))); done))) | refine NewB_intro0 (fun b => ?_) | (refine NewB_intro (fun b hb => ?_); simp only [ln_cons2, ln_nil, and_true] at hb) | (with_reducible apply And.intro; (focus (first | omega | (simp only [Fact, Bool.not_eq_true', Bool.not_eq_false', decide_eq_true_eq, decide_eq_false_iff_not] at *; omega)))) | ((first | refine gW_sp ?_ | refine condW_sp ?_ | refine pickW_sp ?_); (try refine Sp_n ?_); (first | refine Sp_t (by assumption) ?_ | refine Sp_f (by assumption) ?_ | refine Sp_split (fun h => ?_) (fun h => ?_)) <;> (first | have h' := Fact_lt h | have h' := Fact_nlt h | have h' := Fact_le h | have h' := Fact_nle h | skip) <;> (try (exfalso; omega))) | refine TreeW_intro (by rfl) ?_ | refine TreeW_all ?_ | refine upQ_intro ?_ | refine Two_intro ?_ ?_ | (refine leK_lit ?_; (simp [-List.getD_eq_getElem?_getD, LeL, lk, *]; done)) | (refine leK_dd ?_; (simp [-List.getD_eq_getElem?_getD, LeS, LeL, lk, *]; done)) | (simp only [Fact, Bool.not_eq_true', Bool.not_eq_false', decide_eq_true_eq, decide_eq_false_iff_not] at *; refine leK_dd ?_; (simp [-List.getD_eq_getElem?_getD, LeS, LeL, lk, *]; done)) | (show (_ : Nat) ≤ _; omega)) <;> (try simp (disch := omega) only [*, ↓Ed, Eu, ↓reduceIte, reduceCtorEq, Nat.reduceAdd, Nat.reduceEqDiff, Nat.reduceLT, Nat.reduceLeDiff, Int.reduceToNat, Int.reduceEq, Int.reduceLT, Int.reduceLE, gdS, al_pc, al_rc, so_pc, so_rc, so_pst, so_rst, rc_nil, rc_cons, pc_nil, pc_cons, psC, w64, List.length_append, List.length_map, Nat.mul_one, beq_self_eq_true, PathC.cs, RuleC.cs, gdP, gdR]))
    exact ro_mk (by simp [LeL, lk, resR, arR]) dom1
  have f3 : Fact (decide (w.getD 0 [] = [112, 97, 116, 104]) = false) := decide_eq_false h3
  rw [if_neg h3]
  clear h3
  by_cases h4 : w.getD 0 [] = [97, 108, 108, 111, 119] ∨ w.getD 0 [] = [100, 101, 110, 121]
  · rw [if_pos h4]
    have f4 : Fact (decide (w.getD 0 [] = [97, 108, 108, 111, 119]) = true) ∨ Fact (decide (w.getD 0 [] = [97, 108, 108, 111, 119]) = false) ∧ Fact (decide (w.getD 0 [] = [100, 101, 110, 121]) = true) := by
      simp only [Fact, Bool.not_eq_true', Bool.not_eq_false', decide_eq_true_eq, decide_eq_false_iff_not]
      by_cases g : w.getD 0 [] = [97, 108, 108, 111, 119]
      · exact .inl g
      · exact .inr ⟨g, h4.resolve_left g⟩
    clear h4
    rcases f4 with f4 | ⟨f4, f5⟩
    all_goals simp only [c_conf_parser_line, ↓Ed, Eu, ↓reduceIte, reduceCtorEq, Nat.reduceAdd, Nat.reduceEqDiff, Nat.reduceLT, Nat.reduceLeDiff, Int.reduceToNat, Int.reduceEq, Int.reduceLT, Int.reduceLE, gdS, al_pc, al_rc, so_pc, so_rc, so_pst, so_rst, rc_nil, rc_cons, pc_nil, pc_cons, psC, w64, List.length_append, List.length_map, Nat.mul_one, beq_self_eq_true, PathC.cs, RuleC.cs, gdP, gdR]
    all_goals repeat' ((first | (refine' CallO_det (t3) (lk_sub1 ?_) ?_; rotate_right 2; (focus ((repeat (first | exact lk_hd _ _ _ | (refine lk_tl ?_ ?_; (focus (first | assumption | (simp only [*, not_false_eq_true]; done)))))); done))) | refine NewB_intro0 (fun b => ?_) | (refine NewB_intro (fun b hb => ?_); simp only [ln_cons2, ln_nil, and_true] at hb) | (with_reducible apply And.intro; (focus (first | omega | (simp only [Fact, Bool.not_eq_true', Bool.not_eq_false', decide_eq_true_eq, decide_eq_false_iff_not] at *; omega)))) | ((first | refine gW_sp ?_ | refine condW_sp ?_ | refine pickW_sp ?_); (try refine Sp_n ?_); (first | refine Sp_t (by assumption) ?_ | refine Sp_f (by assumption) ?_ | refine Sp_split (fun h => ?_) (fun h => ?_)) <;> (first | have h' := Fact_lt h | have h' := Fact_nlt h | have h' := Fact_le h | have h' := Fact_nle h | skip) <;> (try (exfalso; omega))) | refine TreeW_intro (by rfl) ?_ | refine TreeW_all ?_ | refine upQ_intro ?_ | refine Two_intro ?_ ?_ | (refine leK_lit ?_; (simp [-List.getD_eq_getElem?_getD, LeL, lk, *]; done)) | (refine leK_dd ?_; (simp [-List.getD_eq_getElem?_getD, LeS, LeL, lk, *]; done)) | (simp only [Fact, Bool.not_eq_true', Bool.not_eq_false', decide_eq_true_eq, decide_eq_false_iff_not] at *; refine leK_dd ?_; (simp [-List.getD_eq_getElem?_getD, LeS, LeL, lk, *]; done)) | (show (_ : Nat) ≤ _; omega)) <;> (try simp (disch := omega) only [*, ↓Ed, Eu, ↓reduceIte, reduceCtorEq, Nat.reduceAdd, Nat.reduceEqDiff, Nat.reduceLT, Nat.reduceLeDiff, Int.reduceToNat, Int.reduceEq, Int.reduceLT, Int.reduceLE, gdS, al_pc, al_rc, so_pc, so_rc, so_pst, so_rst, rc_nil, rc_cons, pc_nil, pc_cons, psC, w64, List.length_append, List.length_map, Nat.mul_one, beq_self_eq_true, PathC.cs, RuleC.cs, gdP, gdR]))
    all_goals exact ro_mk (by simp [LeL, lk, resR, arR]) dom1
  have f4 : Fact (decide (w.getD 0 [] = [97, 108, 108, 111, 119]) = false) := decide_eq_false fun g => h4 (.inl g)
  have f5 : Fact (decide (w.getD 0 [] = [100, 101, 110, 121]) = false) := decide_eq_false fun g => h4 (.inr g)
  rw [if_neg h4]
  clear h4
  by_cases h5 : w.getD 0 [] = [105, 110, 116, 101, 114, 118, 97, 108]
  · have f6 : Fact (decide (w.getD 0 [] = [105, 110, 116, 101, 114, 118, 97, 108]) = true) := decide_eq_true h5
    rw [if_pos h5]
    clear h5
    simp only [c_conf_parser_line, ↓Ed, Eu, ↓reduceIte, reduceCtorEq, Nat.reduceAdd, Nat.reduceEqDiff, Nat.reduceLT, Nat.reduceLeDiff, Int.reduceToNat, Int.reduceEq, Int.reduceLT, Int.reduceLE, gdS, al_pc, al_rc, so_pc, so_rc, so_pst, so_rst, rc_nil, rc_cons, pc_nil, pc_cons, psC, w64, List.length_append, List.length_map, Nat.mul_one, beq_self_eq_true, PathC.cs, RuleC.cs, gdP, gdR]
    repeat' ((first | (refine' CallO_det (t4) (lk_sub1 ?_) ?_; rotate_right 2; (focus ((repeat (first | exact lk_hd _ _ _ | (refine lk_tl ?_ ?_; (focus (first | assumption | (simp only [*, not_false_eq_true]; done)))))); done))) | refine NewB_intro0 (fun b => ?_) | (refine NewB_intro (fun b hb => ?_); simp only [ln_cons2, ln_nil, and_true] at hb) | (with_reducible apply And.intro; (focus (first | omega | (simp only [Fact, Bool.not_eq_true', Bool.not_eq_false', decide_eq_true_eq, decide_eq_false_iff_not] at *; omega)))) | ((first | refine gW_sp ?_ | refine condW_sp ?_ | refine pickW_sp ?_); (try refine Sp_n ?_); (first | refine Sp_t (by assumption) ?_ | refine Sp_f (by assumption) ?_ | refine Sp_split (fun h => ?_) (fun h => ?_)) <;> (first | have h' := Fact_lt h | have h' := Fact_nlt h | have h' := Fact_le h | have h' := Fact_nle h | skip) <;> (try (exfalso; omega))) | refine TreeW_intro (by rfl) ?_ | refine TreeW_all ?_ | refine upQ_intro ?_ | refine Two_intro ?_ ?_ | (refine leK_lit ?_; (simp [-List.getD_eq_getElem?_getD, LeL, lk, *]; done)) | (refine leK_dd ?_; (simp [-List.getD_eq_getElem?_getD, LeS, LeL, lk, *]; done)) | (simp only [Fact, Bool.not_eq_true', Bool.not_eq_false', decide_eq_true_eq, decide_eq_false_iff_not] at *; refine leK_dd ?_; (simp [-List.getD_eq_getElem?_getD, LeS, LeL, lk, *]; done)) | (show (_ : Nat) ≤ _; omega)) <;> (try simp (disch := omega) only [*, ↓Ed, Eu, ↓reduceIte, reduceCtorEq, Nat.reduceAdd, Nat.reduceEqDiff, Nat.reduceLT, Nat.reduceLeDiff, Int.reduceToNat, Int.reduceEq, Int.reduceLT, Int.reduceLE, gdS, al_pc, al_rc, so_pc, so_rc, so_pst, so_rst, rc_nil, rc_cons, pc_nil, pc_cons, psC, w64, List.length_append, List.length_map, Nat.mul_one, beq_self_eq_true, PathC.cs, RuleC.cs, gdP, gdR]))
    exact ro_mk (by simp [LeL, lk, resR, arR]) dom1
  · have f6 : Fact (decide (w.getD 0 [] = [105, 110, 116, 101, 114, 118, 97, 108]) = false) := decide_eq_false h5
    rw [if_neg h5]
    clear h5
    simp only [c_conf_parser_line, ↓Ed, Eu, ↓reduceIte, reduceCtorEq, Nat.reduceAdd, Nat.reduceEqDiff, Nat.reduceLT, Nat.reduceLeDiff, Int.reduceToNat, Int.reduceEq, Int.reduceLT, Int.reduceLE, gdS, al_pc, al_rc, so_pc, so_rc, so_pst, so_rst, rc_nil, rc_cons, pc_nil, pc_cons, psC, w64, List.length_append, List.length_map, Nat.mul_one, beq_self_eq_true, PathC.cs, RuleC.cs, gdP, gdR]
    repeat' ((first | (refine' CallO_det (t4) (lk_sub1 ?_) ?_; rotate_right 2; (focus ((repeat (first | exact lk_hd _ _ _ | (refine lk_tl ?_ ?_; (focus (first | assumption | (simp only [*, not_false_eq_true]; done)))))); done))) | refine NewB_intro0 (fun b => ?_) | (refine NewB_intro (fun b hb => ?_); simp only [ln_cons2, ln_nil, and_true] at hb) | (with_reducible apply And.intro; (focus (first | omega | (simp only [Fact, Bool.not_eq_true', Bool.not_eq_false', decide_eq_true_eq, decide_eq_false_iff_not] at *; omega)))) | ((first | refine gW_sp ?_ | refine condW_sp ?_ | refine pickW_sp ?_); (try refine Sp_n ?_); (first | refine Sp_t (by assumption) ?_ | refine Sp_f (by assumption) ?_ | refine Sp_split (fun h => ?_) (fun h => ?_)) <;> (first | have h' := Fact_lt h | have h' := Fact_nlt h | have h' := Fact_le h | have h' := Fact_nle h | skip) <;> (try (exfalso; omega))) | refine TreeW_intro (by rfl) ?_ | refine TreeW_all ?_ | refine upQ_intro ?_ | refine Two_intro ?_ ?_ | (refine leK_lit ?_; (simp [-List.getD_eq_getElem?_getD, LeL, lk, *]; done)) | (refine leK_dd ?_; (simp [-List.getD_eq_getElem?_getD, LeS, LeL, lk, *]; done)) | (simp only [Fact, Bool.not_eq_true', Bool.not_eq_false', decide_eq_true_eq, decide_eq_false_iff_not] at *; refine leK_dd ?_; (simp [-List.getD_eq_getElem?_getD, LeS, LeL, lk, *]; done)) | (show (_ : Nat) ≤ _; omega)) <;> (try simp (disch := omega) only [*, ↓Ed, Eu, ↓reduceIte, reduceCtorEq, Nat.reduceAdd, Nat.reduceEqDiff, Nat.reduceLT, Nat.reduceLeDiff, Int.reduceToNat, Int.reduceEq, Int.reduceLT, Int.reduceLE, gdS, al_pc, al_rc, so_pc, so_rc, so_pst, so_rst, rc_nil, rc_cons, pc_nil, pc_cons, psC, w64, List.length_append, List.length_map, Nat.mul_one, beq_self_eq_true, PathC.cs, RuleC.cs, gdP, gdR]))
    exact ro_mk (by simp [LeL, lk, resR, arR]) dom1
abbrev cfR (c : Conf) : List AV := [.str c.a, .str c.b, .int .i64 c.la.g, .int .i64 c.la.b, .int .i64 c.la.n, .int .i64 c.lb.g, .int .i64 c.lb.b, .int .i64 c.lb.n, .sl none 5 (pths c.ps), .sl none 2 (rls c.rs), .int .i64 c.iv]
theorem spx_len1 (z : UInt8) : ∀ s : List UInt8, (spx z s).length ≤ s.length + 1
  | [] => by simp [spx]
  | c :: t => by
    have := spx_len1 z t
    rw [spx]
    split
    · simp only [List.length_cons]; omega
    · split
      · simp
      · rename_i y ys e; rw [e] at this; simp only [List.length_cons] at *; omega
theorem words_get (t : List UInt8) (h : t.length ≤ 120) (i : Nat) : ((wordsL t).getD i []).length ≤ 1000 := by
  by_cases hi : i < (wordsL t).length
  · rw [List.getD, List.getElem?_eq_getElem hi]
    have := (words_el (List.getElem_mem hi)).2
    simp only [Option.getD_some]; omega
  · rw [List.getD, List.getElem?_eq_none (by omega)]; simp
theorem p_cParse (s : List UInt8) (hs : s.length ≤ 1000000) : CP Tryd.prog 7 [.str s] (.tup [.agg (cfS (confP s).1), .int .i64 (confP s).2.1, .int .i64 (confP s).2.2]) := by
  have hm : maxLen = 9223372036854775807 := rfl
  refine ok_conf_Parse _ _ (by simp) ?_
  have h1 := p_SplitZ 10 s (by omega)
  have hL := spx_len1 10 s
  have hG : Fact (goQ PS.zero 0 ((spx 10 s).drop 0) = confP s) := rfl
  generalize confP s = R at hG ⊢
  obtain ⟨rc, rn, re⟩ := R
  generalize hsp : spx 10 s = L at h1 hL hG
  simp only [c_conf_Parse, ↓Ed, Eu, ↓reduceIte, reduceCtorEq, Nat.reduceAdd, Nat.reduceEqDiff, Nat.reduceLT, Nat.reduceLeDiff, Int.reduceToNat, Int.reduceEq, Int.reduceLT, Int.reduceLE, gdS, al_pc, al_rc, so_pc, so_rc, so_pst, so_rst, rc_nil, rc_cons, pc_nil, pc_cons, psC, w64, List.length_append, List.length_map, Nat.mul_one, beq_self_eq_true, PathC.cs, RuleC.cs, gdP, gdR]
  repeat' ((first | refine CallO_pure (h1) ?_ | refine NewB_intro0 (fun b => ?_) | (refine NewB_intro (fun b hb => ?_); simp only [ln_cons2, ln_nil, and_true] at hb) | (with_reducible apply And.intro; (focus (first | omega | (simp only [Fact, Bool.not_eq_true', Bool.not_eq_false', decide_eq_true_eq, decide_eq_false_iff_not] at *; omega)))) | ((first | refine gW_sp ?_ | refine condW_sp ?_ | refine pickW_sp ?_); (try refine Sp_n ?_); (first | refine Sp_t (by assumption) ?_ | refine Sp_f (by assumption) ?_ | refine Sp_split (fun h => ?_) (fun h => ?_)) <;> (first | have h' := Fact_lt h | have h' := Fact_nlt h | have h' := Fact_le h | have h' := Fact_nle h | skip) <;> (try (exfalso; omega))) | refine TreeW_intro (by rfl) ?_ | refine TreeW_all ?_ | refine upQ_intro ?_ | refine Two_intro ?_ ?_ | (refine leK_lit ?_; (simp [-List.getD_eq_getElem?_getD, LeL, lk, *]; done)) | (refine leK_dd ?_; (simp [-List.getD_eq_getElem?_getD, LeS, LeL, lk, *]; done)) | (simp only [Fact, Bool.not_eq_true', Bool.not_eq_false', decide_eq_true_eq, decide_eq_false_iff_not] at *; refine leK_dd ?_; (simp [-List.getD_eq_getElem?_getD, LeS, LeL, lk, *]; done)) | (show (_ : Nat) ≤ _; omega)) <;> (try simp (disch := omega) only [*, ↓Ed, Eu, ↓reduceIte, reduceCtorEq, Nat.reduceAdd, Nat.reduceEqDiff, Nat.reduceLT, Nat.reduceLeDiff, Int.reduceToNat, Int.reduceEq, Int.reduceLT, Int.reduceLE, gdS, al_pc, al_rc, so_pc, so_rc, so_pst, so_rst, rc_nil, rc_cons, pc_nil, pc_cons, psC, w64, List.length_append, List.length_map, Nat.mul_one, beq_self_eq_true, PathC.cs, RuleC.cs, gdP, gdR]))
  rename_i rp
  refine wpx_loop (fun q : Nat × PS => ⟨lk [(2, .ptr rp 0), (5, .ptr b 0), (13, .sl none 1 (strs L)), (14, .int .i64 L.length), (15, .int .i64 (q.1 : Int))], lk [(rp, [.str [], .str [], .int .i64 0, .int .i64 0, .int .i64 0, .int .i64 0, .int .i64 0, .int .i64 0, .sl (some 38) 5 [], .sl (some 41) 2 [], .int .i64 0]), (b, psC q.2)]⟩) (fun q => q.1 ≤ L.length ∧ PSok q.2 ∧ Fact (goQ q.2 q.1 (L.drop q.1) = (rc, rn, re))) (fun q => L.length - q.1) (0, PS.zero) ⟨Nat.zero_le _, ps_zero, hG⟩ (Le_lit (by simp [LeL, lk, PS.zero, Conf.zero, pc_nil, rc_nil, hb])) ?_
  clear hG
  rintro ⟨k, x⟩ ⟨g1, g2, g3⟩
  simp only at g1 g2 g3 ⊢
  by_cases hk : k < L.length
  rotate_left
  · have f1 : Fact (decide ((k : Int) < L.length) = false) := by simp only [Fact, Bool.not_eq_true', Bool.not_eq_false', decide_eq_true_eq, decide_eq_false_iff_not]; omega
    rw [List.drop_of_length_le (by omega)] at g3
    simp only [Fact, goQ] at g3
    obtain ⟨⟨ca, cb, cla, clb, cps, crs, civ⟩, xa, xb, xi⟩ := x
    cases xa <;> cases xb
    all_goals simp only [Bool.false_eq_true, and_false, false_and, and_self, if_true, if_false, Prod.mk.injEq] at g3
    all_goals obtain ⟨rfl, rfl, rfl⟩ := g3
    all_goals simp (disch := omega) only [↓Ed, Eu, ↓reduceIte, reduceCtorEq, Nat.reduceAdd, Nat.reduceEqDiff, Nat.reduceLT, Nat.reduceLeDiff, Int.reduceToNat, Int.reduceEq, Int.reduceLT, Int.reduceLE, gdS, al_pc, al_rc, so_pc, so_rc, so_pst, so_rst, rc_nil, rc_cons, pc_nil, pc_cons, psC, w64, List.length_append, List.length_map, Nat.mul_one, beq_self_eq_true, PathC.cs, RuleC.cs, gdP, gdR]
    all_goals repeat' ((first | refine NewB_intro0 (fun b => ?_) | (refine NewB_intro (fun b hb => ?_); simp only [ln_cons2, ln_nil, and_true] at hb) | (with_reducible apply And.intro; (focus (first | omega | (simp only [Fact, Bool.not_eq_true', Bool.not_eq_false', decide_eq_true_eq, decide_eq_false_iff_not] at *; omega)))) | ((first | refine gW_sp ?_ | refine condW_sp ?_ | refine pickW_sp ?_); (try refine Sp_n ?_); (first | refine Sp_t (by assumption) ?_ | refine Sp_f (by assumption) ?_ | refine Sp_split (fun h => ?_) (fun h => ?_)) <;> (first | have h' := Fact_lt h | have h' := Fact_nlt h | have h' := Fact_le h | have h' := Fact_nle h | skip) <;> (try (exfalso; omega))) | refine TreeW_intro (by rfl) ?_ | refine TreeW_all ?_ | refine upQ_intro ?_ | refine Two_intro ?_ ?_ | (refine leK_lit ?_; (simp [-List.getD_eq_getElem?_getD, LeL, lk, *]; done)) | (refine leK_dd ?_; (simp [-List.getD_eq_getElem?_getD, LeS, LeL, lk, *]; done)) | (simp only [Fact, Bool.not_eq_true', Bool.not_eq_false', decide_eq_true_eq, decide_eq_false_iff_not] at *; refine leK_dd ?_; (simp [-List.getD_eq_getElem?_getD, LeS, LeL, lk, *]; done)) | (show (_ : Nat) ≤ _; omega)) <;> (try simp (disch := omega) only [*, ↓Ed, Eu, ↓reduceIte, reduceCtorEq, Nat.reduceAdd, Nat.reduceEqDiff, Nat.reduceLT, Nat.reduceLeDiff, Int.reduceToNat, Int.reduceEq, Int.reduceLT, Int.reduceLE, gdS, al_pc, al_rc, so_pc, so_rc, so_pst, so_rst, rc_nil, rc_cons, pc_nil, pc_cons, psC, w64, List.length_append, List.length_map, Nat.mul_one, beq_self_eq_true, PathC.cs, RuleC.cs, gdP, gdR]))
    all_goals simp [pst, rst, Conf.zero]
  · have f1 : Fact (decide ((k : Int) < L.length) = true) := by simp only [Fact, Bool.not_eq_true', Bool.not_eq_false', decide_eq_true_eq, decide_eq_false_iff_not]; omega
    have hd : L.drop k = L.getD k [] :: L.drop (k + 1) := by
      rw [List.drop_eq_getElem_cons hk, List.getD, List.getElem?_eq_getElem hk]; rfl
    rw [hd] at g3
    clear hd
    simp only [Fact, goQ] at g3
    unfold lineQ at g3
    by_cases hlen : 120 < (L.getD k []).length
    · rw [if_pos hlen, if_neg (by simp)] at g3
      have f2 : Fact (decide (((L.getD k []).length : Int) ≤ 120) = false) := by simp only [Fact, Bool.not_eq_true', Bool.not_eq_false', decide_eq_true_eq, decide_eq_false_iff_not]; omega
      simp only [Prod.mk.injEq] at g3
      obtain ⟨rfl, rfl, rfl⟩ := g3
      clear hlen
      simp (disch := omega) only [↓Ed, Eu, ↓reduceIte, reduceCtorEq, Nat.reduceAdd, Nat.reduceEqDiff, Nat.reduceLT, Nat.reduceLeDiff, Int.reduceToNat, Int.reduceEq, Int.reduceLT, Int.reduceLE, gdS, al_pc, al_rc, so_pc, so_rc, so_pst, so_rst, rc_nil, rc_cons, pc_nil, pc_cons, psC, w64, List.length_append, List.length_map, Nat.mul_one, beq_self_eq_true, PathC.cs, RuleC.cs, gdP, gdR]
      repeat' ((first | refine NewB_intro0 (fun b => ?_) | (refine NewB_intro (fun b hb => ?_); simp only [ln_cons2, ln_nil, and_true] at hb) | (with_reducible apply And.intro; (focus (first | omega | (simp only [Fact, Bool.not_eq_true', Bool.not_eq_false', decide_eq_true_eq, decide_eq_false_iff_not] at *; omega)))) | ((first | refine gW_sp ?_ | refine condW_sp ?_ | refine pickW_sp ?_); (try refine Sp_n ?_); (first | refine Sp_t (by assumption) ?_ | refine Sp_f (by assumption) ?_ | refine Sp_split (fun h => ?_) (fun h => ?_)) <;> (first | have h' := Fact_lt h | have h' := Fact_nlt h | have h' := Fact_le h | have h' := Fact_nle h | skip) <;> (try (exfalso; omega))) | refine TreeW_intro (by rfl) ?_ | refine TreeW_all ?_ | refine upQ_intro ?_ | refine Two_intro ?_ ?_ | (refine leK_lit ?_; (simp [-List.getD_eq_getElem?_getD, LeL, lk, *]; done)) | (refine leK_dd ?_; (simp [-List.getD_eq_getElem?_getD, LeS, LeL, lk, *]; done)) | (simp only [Fact, Bool.not_eq_true', Bool.not_eq_false', decide_eq_true_eq, decide_eq_false_iff_not] at *; refine leK_dd ?_; (simp [-List.getD_eq_getElem?_getD, LeS, LeL, lk, *]; done)) | (show (_ : Nat) ≤ _; omega)) <;> (try simp (disch := omega) only [*, ↓Ed, Eu, ↓reduceIte, reduceCtorEq, Nat.reduceAdd, Nat.reduceEqDiff, Nat.reduceLT, Nat.reduceLeDiff, Int.reduceToNat, Int.reduceEq, Int.reduceLT, Int.reduceLE, gdS, al_pc, al_rc, so_pc, so_rc, so_pst, so_rst, rc_nil, rc_cons, pc_nil, pc_cons, psC, w64, List.length_append, List.length_map, Nat.mul_one, beq_self_eq_true, PathC.cs, RuleC.cs, gdP, gdR]))
      all_goals simp [pst, rst, Conf.zero]
    · rw [if_neg hlen] at g3
      have f2 : Fact (decide (((L.getD k []).length : Int) ≤ 120) = true) := by simp only [Fact, Bool.not_eq_true', Bool.not_eq_false', decide_eq_true_eq, decide_eq_false_iff_not]; omega
      have w1 := p_words (L.getD k []) (by omega)
      have t1 := p_cline b x (wordsL (L.getD k [])) (words_get _ (by omega)) (Nat.le_trans (words_len _) (by omega)) g2.rl g2.pl
      have ok := lineW_ok (w := wordsL (L.getD k [])) g2
      generalize lineW x (wordsL (L.getD k [])) = q at g3 t1 ok
      obtain ⟨x', e⟩ := q
      simp only at g3 t1 ok
      by_cases he : e = 0
      · rw [if_pos he] at g3
        subst he
        clear hlen
        replace ok := ok rfl
        replace g3 : Fact (goQ x' (k + 1) (L.drop (k + 1)) = (rc, rn, re)) := g3
        simp (disch := omega) only [↓Ed, Eu, ↓reduceIte, reduceCtorEq, Nat.reduceAdd, Nat.reduceEqDiff, Nat.reduceLT, Nat.reduceLeDiff, Int.reduceToNat, Int.reduceEq, Int.reduceLT, Int.reduceLE, gdS, al_pc, al_rc, so_pc, so_rc, so_pst, so_rst, rc_nil, rc_cons, pc_nil, pc_cons, psC, w64, List.length_append, List.length_map, Nat.mul_one, beq_self_eq_true, PathC.cs, RuleC.cs, gdP, gdR]
        repeat' ((first | refine CallO_pure (w1) ?_ | (refine' CallO_det (t1) (lk_sub1 ?_) ?_; rotate_right 2; (focus ((repeat (first | exact lk_hd _ _ _ | (refine lk_tl ?_ ?_; (focus (first | assumption | (simp only [*, not_false_eq_true]; done)))))); done))) | refine NewB_intro0 (fun b => ?_) | (refine NewB_intro (fun b hb => ?_); simp only [ln_cons2, ln_nil, and_true] at hb) | (with_reducible apply And.intro; (focus (first | omega | (simp only [Fact, Bool.not_eq_true', Bool.not_eq_false', decide_eq_true_eq, decide_eq_false_iff_not] at *; omega)))) | ((first | refine gW_sp ?_ | refine condW_sp ?_ | refine pickW_sp ?_); (try refine Sp_n ?_); (first | refine Sp_t (by assumption) ?_ | refine Sp_f (by assumption) ?_ | refine Sp_split (fun h => ?_) (fun h => ?_)) <;> (first | have h' := Fact_lt h | have h' := Fact_nlt h | have h' := Fact_le h | have h' := Fact_nle h | skip) <;> (try (exfalso; omega))) | refine TreeW_intro (by rfl) ?_ | refine TreeW_all ?_ | refine upQ_intro ?_ | refine Two_intro ?_ ?_ | (refine leK_lit ?_; (simp [-List.getD_eq_getElem?_getD, LeL, lk, *]; done)) | (refine leK_dd ?_; (simp [-List.getD_eq_getElem?_getD, LeS, LeL, lk, *]; done)) | (simp only [Fact, Bool.not_eq_true', Bool.not_eq_false', decide_eq_true_eq, decide_eq_false_iff_not] at *; refine leK_dd ?_; (simp [-List.getD_eq_getElem?_getD, LeS, LeL, lk, *]; done)) | (show (_ : Nat) ≤ _; omega)) <;> (try simp (disch := omega) only [*, ↓Ed, Eu, ↓reduceIte, reduceCtorEq, Nat.reduceAdd, Nat.reduceEqDiff, Nat.reduceLT, Nat.reduceLeDiff, Int.reduceToNat, Int.reduceEq, Int.reduceLT, Int.reduceLE, gdS, al_pc, al_rc, so_pc, so_rc, so_pst, so_rst, rc_nil, rc_cons, pc_nil, pc_cons, psC, w64, List.length_append, List.length_map, Nat.mul_one, beq_self_eq_true, PathC.cs, RuleC.cs, gdP, gdR]))
        exact Round_lit (k + 1, x') ⟨Le_lit (by simp [LeL, lk, hb]), ⟨by simp only; omega, ok, g3⟩, by simp only; omega⟩
      · rw [if_neg he] at g3
        have f3 : Fact (decide (e = 0) = false) := decide_eq_false he
        simp only [Prod.mk.injEq] at g3
        obtain ⟨rfl, rfl, rfl⟩ := g3
        clear hlen he
        simp (disch := omega) only [↓Ed, Eu, ↓reduceIte, reduceCtorEq, Nat.reduceAdd, Nat.reduceEqDiff, Nat.reduceLT, Nat.reduceLeDiff, Int.reduceToNat, Int.reduceEq, Int.reduceLT, Int.reduceLE, gdS, al_pc, al_rc, so_pc, so_rc, so_pst, so_rst, rc_nil, rc_cons, pc_nil, pc_cons, psC, w64, List.length_append, List.length_map, Nat.mul_one, beq_self_eq_true, PathC.cs, RuleC.cs, gdP, gdR]
        repeat' ((first | refine CallO_pure (w1) ?_ | (refine' CallO_det (t1) (lk_sub1 ?_) ?_; rotate_right 2; (focus ((repeat (first | exact lk_hd _ _ _ | (refine lk_tl ?_ ?_; (focus (first | assumption | (simp only [*, not_false_eq_true]; done)))))); done))) | refine NewB_intro0 (fun b => ?_) | (refine NewB_intro (fun b hb => ?_); simp only [ln_cons2, ln_nil, and_true] at hb) | (with_reducible apply And.intro; (focus (first | omega | (simp only [Fact, Bool.not_eq_true', Bool.not_eq_false', decide_eq_true_eq, decide_eq_false_iff_not] at *; omega)))) | ((first | refine gW_sp ?_ | refine condW_sp ?_ | refine pickW_sp ?_); (try refine Sp_n ?_); (first | refine Sp_t (by assumption) ?_ | refine Sp_f (by assumption) ?_ | refine Sp_split (fun h => ?_) (fun h => ?_)) <;> (first | have h' := Fact_lt h | have h' := Fact_nlt h | have h' := Fact_le h | have h' := Fact_nle h | skip) <;> (try (exfalso; omega))) | refine TreeW_intro (by rfl) ?_ | refine TreeW_all ?_ | refine upQ_intro ?_ | refine Two_intro ?_ ?_ | (refine leK_lit ?_; (simp [-List.getD_eq_getElem?_getD, LeL, lk, *]; done)) | (refine leK_dd ?_; (simp [-List.getD_eq_getElem?_getD, LeS, LeL, lk, *]; done)) | (simp only [Fact, Bool.not_eq_true', Bool.not_eq_false', decide_eq_true_eq, decide_eq_false_iff_not] at *; refine leK_dd ?_; (simp [-List.getD_eq_getElem?_getD, LeS, LeL, lk, *]; done)) | (show (_ : Nat) ≤ _; omega)) <;> (try simp (disch := omega) only [*, ↓Ed, Eu, ↓reduceIte, reduceCtorEq, Nat.reduceAdd, Nat.reduceEqDiff, Nat.reduceLT, Nat.reduceLeDiff, Int.reduceToNat, Int.reduceEq, Int.reduceLT, Int.reduceLE, gdS, al_pc, al_rc, so_pc, so_rc, so_pst, so_rst, rc_nil, rc_cons, pc_nil, pc_cons, psC, w64, List.length_append, List.length_map, Nat.mul_one, beq_self_eq_true, PathC.cs, RuleC.cs, gdP, gdR]))
        all_goals simp [pst, rst, Conf.zero]
end Go.Proofs.YtbjmcmgekcmbpaaDoor

/- chapter 21: the document's words, lines, numbers -/
namespace Go.Proofs.YtbjmcmgekcmbpaaDoor
set_option linter.all false
open Go.RowKit
set_option maxRecDepth 100000
theorem nilq (s : List UInt8) : (s = ([] : List UInt8)) = (s.length = 0) := by simp [List.length_eq_zero_iff]
theorem drop_cons {s : List UInt8} {i : Nat} (h : i < s.length) : s.drop i = s.getD i 0 :: s.drop (i + 1) := by
  rw [List.drop_eq_getElem_cons h, List.getD, List.getElem?_eq_getElem h]; rfl
theorem nh_end {s : List UInt8} {i : Nat} (h : s.length ≤ i) : noHash (s.drop i) = [] := by rw [List.drop_of_length_le h]; rfl
theorem nh_hash {s : List UInt8} {i : Nat} (h : i < s.length) (hc : s.getD i 0 = 35) : noHash (s.drop i) = [] := by
  rw [drop_cons h, hc]; rfl
theorem nh_step {s : List UInt8} {i : Nat} (h : i < s.length) (hc : s.getD i 0 ≠ 35) : noHash (s.drop i) = s.getD i 0 :: noHash (s.drop (i + 1)) := by
  rw [drop_cons h]
  unfold noHash
  rw [List.takeWhile_cons, if_pos (by simpa using hc)]
theorem u8k {a : UInt8} (b : UInt8) {n : Nat} (hb : b.toNat = n) : ((a.toNat : Int) = (n : Int)) ↔ a = b := by
  rw [Int.ofNat_inj, ← hb, UInt8.toNat_inj]
theorem u35 {c : UInt8} : ((c.toNat : Int) = 35) ↔ c = 35 := u8k 35 rfl
theorem u32 {c : UInt8} : ((c.toNat : Int) = 32) ↔ c = 32 := u8k 32 rfl
theorem u9 {c : UInt8} : ((c.toNat : Int) = 9) ↔ c = 9 := u8k 9 rfl
theorem u10 {c : UInt8} : ((c.toNat : Int) = 10) ↔ c = 10 := u8k 10 rfl
theorem take1 {s : List UInt8} {i : Nat} (h : i < s.length) : (s.take (i + 1)).drop i = [s.getD i 0] := by
  rw [List.drop_take, drop_cons h]; simp
theorem w_end {s cur : List UInt8} {o R : List (List UInt8)} {i : Nat} (h : o ++ wgo cur (noHash (s.drop i)) = R) (hn : noHash (s.drop i) = []) : (cur.length = 0 → o = R) ∧ (cur.length ≠ 0 → o ++ [cur] = R) := by
  rw [hn, wgo] at h
  constructor
  · intro e
    rw [if_pos (List.length_eq_zero_iff.1 e)] at h
    simpa using h
  · intro e
    rw [if_neg (fun g => e (List.length_eq_zero_iff.2 g))] at h
    exact h
theorem w_blk {s cur : List UInt8} {o R : List (List UInt8)} {i : Nat} (h : o ++ wgo cur (noHash (s.drop i)) = R) (hi : i < s.length) (hc : s.getD i 0 ≠ 35) (hb : blk (s.getD i 0) = true) :
    (cur.length = 0 → o ++ wgo [] (noHash (s.drop (i + 1))) = R) ∧ (cur.length ≠ 0 → (o ++ [cur]) ++ wgo [] (noHash (s.drop (i + 1))) = R) := by
  rw [nh_step hi hc, wgo, if_pos hb] at h
  constructor
  · intro e
    rw [if_pos (List.length_eq_zero_iff.1 e)] at h
    exact h
  · intro e
    rw [if_neg (fun g => e (List.length_eq_zero_iff.2 g))] at h
    rw [← h]; simp
theorem w_chr {s cur : List UInt8} {o R : List (List UInt8)} {i : Nat} (h : o ++ wgo cur (noHash (s.drop i)) = R) (hi : i < s.length) (hc : s.getD i 0 ≠ 35) (hb : blk (s.getD i 0) = false) :
    o ++ wgo (cur ++ [s.getD i 0]) (noHash (s.drop (i + 1))) = R := by
  rw [nh_step hi hc, wgo, if_neg (by rw [hb]; decide)] at h
  exact h
theorem blk32 {c : UInt8} (h : c = 32) : blk c = true := by subst h; rfl
theorem blk9 {c : UInt8} (h : c = 9) : blk c = true := by subst h; rfl
theorem blk_no {c : UInt8} (h : c ≠ 32) (h' : c ≠ 9) : blk c = false := by simp [blk, h, h']
theorem p_Words (s : List UInt8) (hs : s.length ≤ 1000000) : CP Tryd.prog 47 [.str s] (.sl (some 9) 1 (strs (wordsL s))) := by
  have hm : maxLen = 9223372036854775807 := rfl
  refine ok_ligref20_Words _ _ (by simp) ?_
  simp only [c_ligref20_Words, ↓Ed, Eu, ↓reduceIte, reduceCtorEq, Nat.reduceAdd, Nat.reduceEqDiff, Nat.reduceLT, Nat.reduceLeDiff, Int.reduceToNat, Int.reduceEq, Int.reduceLT, Int.reduceLE, gdS, w64, w64b, List.length_append, List.length_map, Nat.mul_one, beq_self_eq_true, nilq]
  repeat' ((first | refine NewB_intro0 (fun b => ?_) | (refine NewB_intro (fun b hb => ?_); simp only [ln_cons2, ln_nil, and_true] at hb) | (with_reducible apply And.intro; (focus (first | omega | (simp only [Fact, Bool.not_eq_true', Bool.not_eq_false', decide_eq_true_eq, decide_eq_false_iff_not] at *; omega)))) | ((first | refine gW_sp ?_ | refine condW_sp ?_ | refine pickW_sp ?_); (try refine Sp_n ?_); (first | refine Sp_t (by assumption) ?_ | refine Sp_f (by assumption) ?_ | refine Sp_split (fun h => ?_) (fun h => ?_)) <;> (first | have h' := Fact_lt h | have h' := Fact_nlt h | have h' := Fact_le h | have h' := Fact_nle h | skip) <;> (try (exfalso; omega))) | refine TreeW_intro (by rfl) ?_ | refine TreeW_all ?_ | refine upQ_intro ?_ | refine Two_intro ?_ ?_ | (refine leK_lit ?_; (simp [-List.getD_eq_getElem?_getD, LeL, lk, *]; done)) | (refine leK_dd ?_; (simp [-List.getD_eq_getElem?_getD, LeS, LeL, lk, *]; done)) | (simp only [Fact, Bool.not_eq_true', Bool.not_eq_false', decide_eq_true_eq, decide_eq_false_iff_not] at *; refine leK_dd ?_; (simp [-List.getD_eq_getElem?_getD, LeS, LeL, lk, *]; done)) | (show (_ : Nat) ≤ _; omega)) <;> (try simp (disch := omega) only [*, ↓Ed, Eu, ↓reduceIte, reduceCtorEq, Nat.reduceAdd, Nat.reduceEqDiff, Nat.reduceLT, Nat.reduceLeDiff, Int.reduceToNat, Int.reduceEq, Int.reduceLT, Int.reduceLE, gdS, w64, w64b, List.length_append, List.length_map, Nat.mul_one, beq_self_eq_true, nilq]))
  have h0 : Fact ([] ++ wgo [] (noHash (s.drop 0)) = wordsL s ∧ ([] : List (List UInt8)).length ≤ 0 ∧ ([] : List UInt8).length ≤ 0) := ⟨rfl, Nat.le_refl _, Nat.le_refl _⟩
  generalize hW : wordsL s = R at h0 ⊢
  clear hW
  refine wpx_loop (fun q : List (List UInt8) × List UInt8 × Nat => ⟨lk [(0, .str s), (3, .sl (some 9) 1 (strs q.1)), (4, .str q.2.1), (5, .int .i64 (q.2.2 : Int))], lk []⟩) (fun q => q.2.2 ≤ s.length ∧ Fact (q.1 ++ wgo q.2.1 (noHash (s.drop q.2.2)) = R ∧ q.1.length ≤ q.2.2 ∧ q.2.1.length ≤ q.2.2)) (fun q => s.length - q.2.2) ([], [], 0) ⟨Nat.zero_le _, h0⟩ (Le_lit (by simp [LeL, lk])) ?_
  clear h0
  rintro ⟨o, cur, i⟩ ⟨g1, g2⟩
  simp only at g1 g2 ⊢
  have g3 : o.length ≤ i := g2.2.1
  have g4 : cur.length ≤ i := g2.2.2
  simp (disch := omega) only [↓Ed, Eu, ↓reduceIte, reduceCtorEq, Nat.reduceAdd, Nat.reduceEqDiff, Nat.reduceLT, Nat.reduceLeDiff, Int.reduceToNat, Int.reduceEq, Int.reduceLT, Int.reduceLE, gdS, w64, w64b, List.length_append, List.length_map, Nat.mul_one, beq_self_eq_true, nilq]
  repeat' ((first | refine NewB_intro0 (fun b => ?_) | (refine NewB_intro (fun b hb => ?_); simp only [ln_cons2, ln_nil, and_true] at hb) | (with_reducible apply And.intro; (focus (first | omega | (simp only [Fact, Bool.not_eq_true', Bool.not_eq_false', decide_eq_true_eq, decide_eq_false_iff_not] at *; omega)))) | ((first | refine gW_sp ?_ | refine condW_sp ?_ | refine pickW_sp ?_); (try refine Sp_n ?_); (first | refine Sp_t (by assumption) ?_ | refine Sp_f (by assumption) ?_ | refine Sp_split (fun h => ?_) (fun h => ?_)) <;> (first | have h' := Fact_lt h | have h' := Fact_nlt h | have h' := Fact_le h | have h' := Fact_nle h | skip) <;> (try (exfalso; omega))) | refine TreeW_intro (by rfl) ?_ | refine TreeW_all ?_ | refine upQ_intro ?_ | refine Two_intro ?_ ?_ | (refine leK_lit ?_; (simp [-List.getD_eq_getElem?_getD, LeL, lk, *]; done)) | (refine leK_dd ?_; (simp [-List.getD_eq_getElem?_getD, LeS, LeL, lk, *]; done)) | (simp only [Fact, Bool.not_eq_true', Bool.not_eq_false', decide_eq_true_eq, decide_eq_false_iff_not] at *; refine leK_dd ?_; (simp [-List.getD_eq_getElem?_getD, LeS, LeL, lk, *]; done)) | (show (_ : Nat) ≤ _; omega)) <;> (try simp (disch := omega) only [*, ↓Ed, Eu, ↓reduceIte, reduceCtorEq, Nat.reduceAdd, Nat.reduceEqDiff, Nat.reduceLT, Nat.reduceLeDiff, Int.reduceToNat, Int.reduceEq, Int.reduceLT, Int.reduceLE, gdS, w64, w64b, List.length_append, List.length_map, Nat.mul_one, beq_self_eq_true, nilq]))
  all_goals simp only [Fact, Bool.not_eq_true', Bool.not_eq_false', decide_eq_true_eq, decide_eq_false_iff_not, u35, u32, u9] at *
  · rw [(w_end g2.1 (nh_hash (by omega) (by assumption))).1 h]
  · rw [← (w_end g2.1 (nh_hash (by omega) (by assumption))).2 h]; simp [strs]
  · exact Round_lit (o, [], i + 1) ⟨Le_lit (by simp [LeL, lk]), ⟨by simp only; omega, (w_blk g2.1 (by omega) (by assumption) (blk32 (by assumption))).1 h, by simp only; omega, by simp⟩, by simp only; omega⟩
  · exact Round_lit (o ++ [cur], [], i + 1) ⟨Le_lit (by simp [LeL, lk]), ⟨by simp only; omega, (w_blk g2.1 (by omega) (by assumption) (blk32 (by assumption))).2 h, by simp; omega, by simp⟩, by simp only; omega⟩
  · exact Round_lit (o, [], i + 1) ⟨Le_lit (by simp [LeL, lk]), ⟨by simp only; omega, (w_blk g2.1 (by omega) (by assumption) (blk9 (by assumption))).1 h, by simp only; omega, by simp⟩, by simp only; omega⟩
  · exact Round_lit (o ++ [cur], [], i + 1) ⟨Le_lit (by simp [LeL, lk]), ⟨by simp only; omega, (w_blk g2.1 (by omega) (by assumption) (blk9 (by assumption))).2 h, by simp; omega, by simp⟩, by simp only; omega⟩
  · have e : ((i : Int) + 1).toNat = i + 1 := by omega
    rw [e, take1 (by omega)]
    refine ⟨by simp; omega, ?_⟩
    exact Round_lit (show List (List UInt8) × List UInt8 × Nat from (o, cur ++ [s.getD i 0], i + 1)) ⟨Le_lit (by simp [-List.getD_eq_getElem?_getD, LeL, lk]), ⟨by simp only; omega, w_chr g2.1 (by omega) (by assumption) (blk_no (by assumption) h), by simp only; omega, by simp; omega⟩, by simp only; omega⟩
  · rw [(w_end g2.1 (nh_end (by omega))).1 h]
  · rw [← (w_end g2.1 (nh_end (by omega))).2 h]; simp [strs]
/-! lines -/
theorem spx_nl {s : List UInt8} {f i : Nat} (hf : f ≤ i) (hi : i < s.length) (hn : ∀ j, f ≤ j → j < i → s.getD j 0 ≠ 10) (hc : s.getD i 0 = 10) : spx 10 (s.drop f) = (s.take i).drop f :: spx 10 (s.drop (i + 1)) := by
  have e : s.drop f = (s.take i).drop f ++ 10 :: s.drop (i + 1) := by
    rw [← hc, ← drop_cons hi, List.drop_take]
    have : s.drop i = (s.drop f).drop (i - f) := by rw [List.drop_drop]; congr 1; omega
    rw [this, List.take_append_drop]
  rw [e, spx_cut]
  intro g
  obtain ⟨j, hj, e2⟩ := List.getElem_of_mem g
  rw [List.length_drop, List.length_take] at hj
  refine hn (f + j) (by omega) (by omega) ?_
  rw [← e2]
  simp [List.getD, List.getElem?_eq_getElem (show f + j < s.length by omega)]
theorem spx_tail {s : List UInt8} {f i : Nat} (hf : f ≤ i) (hi : s.length ≤ i) (hn : ∀ j, f ≤ j → j < i → s.getD j 0 ≠ 10) : spx 10 (s.drop f) = [s.drop f] := by
  refine spx_none ?_
  intro g
  obtain ⟨j, hj, e2⟩ := List.getElem_of_mem g
  rw [List.length_drop] at hj
  refine hn (f + j) (by omega) (by omega) ?_
  rw [← e2]
  simp [List.getD, List.getElem?_eq_getElem (show f + j < s.length by omega)]
theorem p_Lines (s : List UInt8) (hs : s.length ≤ 8000000) : CP Tryd.prog 22 [.str s] (.sl (some 9) 1 (strs (linesD s))) := by
  have hm : maxLen = 9223372036854775807 := rfl
  refine ok_ligref20_Lines _ _ (by simp) ?_
  simp only [c_ligref20_Lines, ↓Ed, Eu, ↓reduceIte, reduceCtorEq, Nat.reduceAdd, Nat.reduceEqDiff, Nat.reduceLT, Nat.reduceLeDiff, Int.reduceToNat, Int.reduceEq, Int.reduceLT, Int.reduceLE, gdS, w64, w64b, List.length_append, List.length_map, Nat.mul_one, beq_self_eq_true, nilq]
  repeat' ((first | refine NewB_intro0 (fun b => ?_) | (refine NewB_intro (fun b hb => ?_); simp only [ln_cons2, ln_nil, and_true] at hb) | (with_reducible apply And.intro; (focus (first | omega | (simp only [Fact, Bool.not_eq_true', Bool.not_eq_false', decide_eq_true_eq, decide_eq_false_iff_not] at *; omega)))) | ((first | refine gW_sp ?_ | refine condW_sp ?_ | refine pickW_sp ?_); (try refine Sp_n ?_); (first | refine Sp_t (by assumption) ?_ | refine Sp_f (by assumption) ?_ | refine Sp_split (fun h => ?_) (fun h => ?_)) <;> (first | have h' := Fact_lt h | have h' := Fact_nlt h | have h' := Fact_le h | have h' := Fact_nle h | skip) <;> (try (exfalso; omega))) | refine TreeW_intro (by rfl) ?_ | refine TreeW_all ?_ | refine upQ_intro ?_ | refine Two_intro ?_ ?_ | (refine leK_lit ?_; (simp [-List.getD_eq_getElem?_getD, LeL, lk, *]; done)) | (refine leK_dd ?_; (simp [-List.getD_eq_getElem?_getD, LeS, LeL, lk, *]; done)) | (simp only [Fact, Bool.not_eq_true', Bool.not_eq_false', decide_eq_true_eq, decide_eq_false_iff_not] at *; refine leK_dd ?_; (simp [-List.getD_eq_getElem?_getD, LeS, LeL, lk, *]; done)) | (show (_ : Nat) ≤ _; omega)) <;> (try simp (disch := omega) only [*, ↓Ed, Eu, ↓reduceIte, reduceCtorEq, Nat.reduceAdd, Nat.reduceEqDiff, Nat.reduceLT, Nat.reduceLeDiff, Int.reduceToNat, Int.reduceEq, Int.reduceLT, Int.reduceLE, gdS, w64, w64b, List.length_append, List.length_map, Nat.mul_one, beq_self_eq_true, nilq]))
  have h0 : Fact ([] ++ spx 10 (s.drop 0) = spx 10 s ∧ (∀ j, 0 ≤ j → j < 0 → s.getD j 0 ≠ 10) ∧ ([] : List (List UInt8)).length ≤ 0) := ⟨rfl, fun j h1 h2 => by omega, Nat.le_refl _⟩
  refine wpx_loop (fun q : List (List UInt8) × Nat × Nat => ⟨lk [(0, .str s), (3, .sl (some 9) 1 (strs q.1)), (4, .int .i64 (q.2.1 : Int)), (5, .int .i64 (q.2.2 : Int))], lk []⟩) (fun q => (q.2.1 ≤ q.2.2 ∧ q.2.2 ≤ s.length) ∧ Fact (q.1 ++ spx 10 (s.drop q.2.1) = spx 10 s ∧ (∀ j, q.2.1 ≤ j → j < q.2.2 → s.getD j 0 ≠ 10) ∧ q.1.length ≤ q.2.2)) (fun q => s.length - q.2.2) ([], 0, 0) ⟨⟨Nat.le_refl _, Nat.zero_le _⟩, h0⟩ (Le_lit (by simp [LeL, lk])) ?_
  clear h0
  rintro ⟨o, f, i⟩ ⟨⟨g0, g1⟩, g2⟩
  simp only at g0 g1 g2 ⊢
  have g3 : o.length ≤ i := g2.2.2
  simp (disch := omega) only [↓Ed, Eu, ↓reduceIte, reduceCtorEq, Nat.reduceAdd, Nat.reduceEqDiff, Nat.reduceLT, Nat.reduceLeDiff, Int.reduceToNat, Int.reduceEq, Int.reduceLT, Int.reduceLE, gdS, w64, w64b, List.length_append, List.length_map, Nat.mul_one, beq_self_eq_true, nilq]
  repeat' ((first | refine NewB_intro0 (fun b => ?_) | (refine NewB_intro (fun b hb => ?_); simp only [ln_cons2, ln_nil, and_true] at hb) | (with_reducible apply And.intro; (focus (first | omega | (simp only [Fact, Bool.not_eq_true', Bool.not_eq_false', decide_eq_true_eq, decide_eq_false_iff_not] at *; omega)))) | ((first | refine gW_sp ?_ | refine condW_sp ?_ | refine pickW_sp ?_); (try refine Sp_n ?_); (first | refine Sp_t (by assumption) ?_ | refine Sp_f (by assumption) ?_ | refine Sp_split (fun h => ?_) (fun h => ?_)) <;> (first | have h' := Fact_lt h | have h' := Fact_nlt h | have h' := Fact_le h | have h' := Fact_nle h | skip) <;> (try (exfalso; omega))) | refine TreeW_intro (by rfl) ?_ | refine TreeW_all ?_ | refine upQ_intro ?_ | refine Two_intro ?_ ?_ | (refine leK_lit ?_; (simp [-List.getD_eq_getElem?_getD, LeL, lk, *]; done)) | (refine leK_dd ?_; (simp [-List.getD_eq_getElem?_getD, LeS, LeL, lk, *]; done)) | (simp only [Fact, Bool.not_eq_true', Bool.not_eq_false', decide_eq_true_eq, decide_eq_false_iff_not] at *; refine leK_dd ?_; (simp [-List.getD_eq_getElem?_getD, LeS, LeL, lk, *]; done)) | (show (_ : Nat) ≤ _; omega)) <;> (try simp (disch := omega) only [*, ↓Ed, Eu, ↓reduceIte, reduceCtorEq, Nat.reduceAdd, Nat.reduceEqDiff, Nat.reduceLT, Nat.reduceLeDiff, Int.reduceToNat, Int.reduceEq, Int.reduceLT, Int.reduceLE, gdS, w64, w64b, List.length_append, List.length_map, Nat.mul_one, beq_self_eq_true, nilq]))
  all_goals simp only [Fact, Bool.not_eq_true', Bool.not_eq_false', decide_eq_true_eq, decide_eq_false_iff_not, u10] at *
  · have e := spx_nl g0 (by omega) g2.2.1 h
    rw [e] at g2
    exact Round_lit (show List (List UInt8) × Nat × Nat from (o ++ [(s.take i).drop f], i + 1, i + 1)) ⟨Le_lit (by simp [LeL, lk]), ⟨⟨Nat.le_refl _, by simp only; omega⟩, by rw [← g2.1]; simp, fun j h1 h2 => absurd h1 (by simp only at h2 ⊢; omega), by simp; omega⟩, by simp only; omega⟩
  · exact Round_lit (show List (List UInt8) × Nat × Nat from (o, f, i + 1)) ⟨Le_lit (by simp [LeL, lk]), ⟨⟨by simp only; omega, by simp only; omega⟩, g2.1, fun j h1 h2 => by
      by_cases e : j = i
      · subst e; exact h
      · exact g2.2.1 j h1 (by simp only at h2; omega), by simp only; omega⟩, by simp only; omega⟩
  · have e := spx_tail g0 (by omega) g2.2.1
    rw [e] at g2
    have hne : s.drop f ≠ [] := by
      intro g
      have := congrArg List.length g
      simp at this; omega
    rw [linesD_out g2.1.symm, if_neg hne, List.take_length]
    simp [strs]
  · have e := spx_tail g0 (by omega) g2.2.1
    rw [e] at g2
    rw [linesD_out g2.1.symm, if_pos (List.drop_of_length_le (by omega))]
/-! numbers -/
def okN (l : List (List UInt8)) : Bool := l.all fun w => decide ((numP w).2 = 0)
def numsR (l : List (List UInt8)) : List Int := l.map fun w => (numP w).1
abbrev intsC (l : List Int) : List (List AV) := l.map fun n => [AV.int .i64 n]
theorem okN_bad {l : List (List UInt8)} {k : Nat} (hk : k < l.length) (h : (numP (l.getD k [])).2 ≠ 0) : okN l = false := by
  unfold okN
  rw [List.all_eq_false]
  refine ⟨l.getD k [], ?_, by simpa using h⟩
  rw [List.getD, List.getElem?_eq_getElem hk]; exact List.getElem_mem hk
theorem okN_all {l : List (List UInt8)} (h : ∀ j, j < l.length → (numP (l.getD j [])).2 = 0) : okN l = true := by
  unfold okN
  rw [List.all_eq_true]
  intro x hx
  obtain ⟨j, hj, rfl⟩ := List.getElem_of_mem hx
  have := h j hj
  rw [List.getD, List.getElem?_eq_getElem hj] at this
  exact decide_eq_true this
theorem numsR_take {l : List (List UInt8)} {k : Nat} (hk : k < l.length) : numsR (l.take (k + 1)) = numsR (l.take k) ++ [(numP (l.getD k [])).1] := by
  unfold numsR
  rw [List.take_succ_eq_append_getElem hk, List.map_append]
  congr 1
  simp [List.getD, List.getElem?_eq_getElem hk]
theorem p_numbers (own : Option Nat) (l : List (List UInt8)) (hl : l.length ≤ 1000) (hw : ∀ i, (l.getD i []).length ≤ 1000) : CP Tryd.prog 51 [.sl own 1 (strs l)] (.tup [.sl none 1 (intsC (if okN l = true then numsR l else [])), .bool (okN l)]) := by
  have hm : maxLen = 9223372036854775807 := rfl
  refine ok_ligref20_numbers _ _ (by simp) ?_
  simp only [c_ligref20_numbers, ↓Ed, Eu, ↓reduceIte, reduceCtorEq, Nat.reduceAdd, Nat.reduceEqDiff, Nat.reduceLT, Nat.reduceLeDiff, Int.reduceToNat, Int.reduceEq, Int.reduceLT, Int.reduceLE, gdS, w64, w64b, List.length_append, List.length_map, Nat.mul_one, beq_self_eq_true, nilq]
  repeat' ((first | refine NewB_intro0 (fun b => ?_) | (refine NewB_intro (fun b hb => ?_); simp only [ln_cons2, ln_nil, and_true] at hb) | (with_reducible apply And.intro; (focus (first | omega | (simp only [Fact, Bool.not_eq_true', Bool.not_eq_false', decide_eq_true_eq, decide_eq_false_iff_not] at *; omega)))) | ((first | refine gW_sp ?_ | refine condW_sp ?_ | refine pickW_sp ?_); (try refine Sp_n ?_); (first | refine Sp_t (by assumption) ?_ | refine Sp_f (by assumption) ?_ | refine Sp_split (fun h => ?_) (fun h => ?_)) <;> (first | have h' := Fact_lt h | have h' := Fact_nlt h | have h' := Fact_le h | have h' := Fact_nle h | skip) <;> (try (exfalso; omega))) | refine TreeW_intro (by rfl) ?_ | refine TreeW_all ?_ | refine upQ_intro ?_ | refine Two_intro ?_ ?_ | (refine leK_lit ?_; (simp [-List.getD_eq_getElem?_getD, LeL, lk, *]; done)) | (refine leK_dd ?_; (simp [-List.getD_eq_getElem?_getD, LeS, LeL, lk, *]; done)) | (simp only [Fact, Bool.not_eq_true', Bool.not_eq_false', decide_eq_true_eq, decide_eq_false_iff_not] at *; refine leK_dd ?_; (simp [-List.getD_eq_getElem?_getD, LeS, LeL, lk, *]; done)) | (show (_ : Nat) ≤ _; omega)) <;> (try simp (disch := omega) only [*, ↓Ed, Eu, ↓reduceIte, reduceCtorEq, Nat.reduceAdd, Nat.reduceEqDiff, Nat.reduceLT, Nat.reduceLeDiff, Int.reduceToNat, Int.reduceEq, Int.reduceLT, Int.reduceLE, gdS, w64, w64b, List.length_append, List.length_map, Nat.mul_one, beq_self_eq_true, nilq]))
  refine wpx_loop (fun k : Nat => ⟨lk [(0, .sl none 1 (strs l)), (4, .sl (some 3) 1 (intsC (numsR (l.take k)))), (5, .int .i64 (k : Int))], lk []⟩) (fun k => k ≤ l.length ∧ Fact (∀ j, j < k → (numP (l.getD j [])).2 = 0)) (fun k => l.length - k) 0 ⟨Nat.zero_le _, fun j hj => by omega⟩ (Le_lit (by simp [LeL, lk, numsR])) ?_
  rintro k ⟨g0, g1⟩
  have hwk := hw k
  have hlt : (numsR (l.take k)).length ≤ 1000 := by simp only [numsR, List.length_map, List.length_take]; omega
  simp (disch := omega) only [↓Ed, Eu, ↓reduceIte, reduceCtorEq, Nat.reduceAdd, Nat.reduceEqDiff, Nat.reduceLT, Nat.reduceLeDiff, Int.reduceToNat, Int.reduceEq, Int.reduceLT, Int.reduceLE, gdS, w64, w64b, List.length_append, List.length_map, Nat.mul_one, beq_self_eq_true, nilq]
  repeat' ((first | refine CallO_pure (p_rNumber (l.getD k []) (by omega)) ?_ | refine NewB_intro0 (fun b => ?_) | (refine NewB_intro (fun b hb => ?_); simp only [ln_cons2, ln_nil, and_true] at hb) | (with_reducible apply And.intro; (focus (first | omega | (simp only [Fact, Bool.not_eq_true', Bool.not_eq_false', decide_eq_true_eq, decide_eq_false_iff_not] at *; omega)))) | ((first | refine gW_sp ?_ | refine condW_sp ?_ | refine pickW_sp ?_); (try refine Sp_n ?_); (first | refine Sp_t (by assumption) ?_ | refine Sp_f (by assumption) ?_ | refine Sp_split (fun h => ?_) (fun h => ?_)) <;> (first | have h' := Fact_lt h | have h' := Fact_nlt h | have h' := Fact_le h | have h' := Fact_nle h | skip) <;> (try (exfalso; omega))) | refine TreeW_intro (by rfl) ?_ | refine TreeW_all ?_ | refine upQ_intro ?_ | refine Two_intro ?_ ?_ | (refine leK_lit ?_; (simp [-List.getD_eq_getElem?_getD, LeL, lk, *]; done)) | (refine leK_dd ?_; (simp [-List.getD_eq_getElem?_getD, LeS, LeL, lk, *]; done)) | (simp only [Fact, Bool.not_eq_true', Bool.not_eq_false', decide_eq_true_eq, decide_eq_false_iff_not] at *; refine leK_dd ?_; (simp [-List.getD_eq_getElem?_getD, LeS, LeL, lk, *]; done)) | (show (_ : Nat) ≤ _; omega)) <;> (try simp (disch := omega) only [*, ↓Ed, Eu, ↓reduceIte, reduceCtorEq, Nat.reduceAdd, Nat.reduceEqDiff, Nat.reduceLT, Nat.reduceLeDiff, Int.reduceToNat, Int.reduceEq, Int.reduceLT, Int.reduceLE, gdS, w64, w64b, List.length_append, List.length_map, Nat.mul_one, beq_self_eq_true, nilq]))
  all_goals simp only [Fact, Bool.not_eq_true', Bool.not_eq_false', decide_eq_true_eq, decide_eq_false_iff_not] at *
  · exact Round_lit (k + 1) ⟨Le_lit (by simp [-List.map_take, LeL, lk, numsR_take (show k < l.length by omega)]), ⟨by omega, fun j hj => by
      by_cases e : j = k
      · subst e; exact h
      · exact g1 j (by omega)⟩, by omega⟩
  · rw [okN_bad (k := k) (by omega) h]; simp
  · rw [okN_all fun j hj => g1 j (by omega), List.take_of_length_le (by omega)]; simp
end Go.Proofs.YtbjmcmgekcmbpaaDoor

/- The abstract machine: orders told apart: a slot that was written twice counts once. -/
namespace Go.Proofs.YtbjmcmgekcmbpaaDoor
set_option linter.all false
open Go.RowKit
def LeS {α : Type} (sn : List Nat) : List (Nat × α) → (Nat → Option α) → Prop
  | [], _ => True
  | (k, v) :: r, f => (k ∈ sn ∨ f k = some v) ∧ LeS (k :: sn) r f
theorem LeS_ok {α : Type} {f : Nat → Option α} : ∀ {l : List (Nat × α)} {sn : List Nat}, LeS sn l f → ∀ i v, i ∉ sn → lk l i = some v → f i = some v
  | [], _, _, i, v, _, h => by simp [lk] at h
  | (k, w) :: r, sn, ⟨h1, h2⟩, i, v, hn, h => by
    rw [lk] at h
    split at h
    · rename_i e
      subst e
      cases h
      exact h1.resolve_left hn
    · rename_i e
      exact LeS_ok h2 i v (by rw [List.mem_cons, not_or]; exact ⟨e, hn⟩) h
theorem leK_dd {a : List (Nat × AV)} {b : List (Nat × List AV)} {s : St} (h : LeS [] a s.t ∧ LeL b s.o) : leK ⟨lk a, lk b⟩ s := ⟨fun i v e => LeS_ok h.1 i v (by simp) e, LeL_ok h.2⟩
end Go.Proofs.YtbjmcmgekcmbpaaDoor
