import Derived.Test.YtbjmcmgekcmbpabDoorK17
import Derived.Test.YtbjmcmgekcmbpabDoorK13
/- chapter 21: the program's Print -/
namespace Go.Proofs.YtbjmcmgekcmbpabDoor
set_option linter.all false
open Go.RowKit
set_option maxRecDepth 100000
abbrev lns (l : List (List (List UInt8))) : List (List AV) := l.map fun w => [AV.sl none 1 (strs w)]
theorem gdN {l : List (List (List UInt8))} {i : Nat} (h : i < l.length) : (lns l).getD i [] = [AV.sl none 1 (strs (l.getD i []))] := by simp [lns, h]
theorem p_chainLine (s n : List UInt8) (l : Lim) (h : limQ l) : CP Tryd.prog 12 [.str s, .str n, .agg l.cs] (.sl (some 9) 1 (strs (chainW s n l))) := by
  obtain ⟨g, b', c⟩ := l
  obtain ⟨h1, h2, h3⟩ := h
  simp only at h1 h2 h3
  refine ok_conf_chainLine _ _ (by simp) ?_
  simp only [c_conf_chainLine, ↓Ed, Eu, ↓reduceIte, reduceCtorEq, Nat.reduceAdd, Nat.reduceEqDiff, Nat.reduceLT, Nat.reduceLeDiff, Int.reduceToNat, Int.reduceEq, Int.reduceLT, Int.reduceLE, Int.toNat_natCast, al_so, al_al, al_pc, al_rc, al_pst, al_rst, w64, List.length_append, List.length_map, Nat.mul_one, beq_self_eq_true, Lim.cs, PathC.cs, RuleC.cs, gdP, gdR, gdN, bl]
  repeat' ((first | refine CallW_intro (p_Itoa g (by omega)) ?_ | refine CallW_intro (p_Itoa b' (by omega)) ?_ | refine CallW_intro (p_Itoa c (by omega)) ?_ | refine NewB_intro0 (fun b => ?_) | (refine NewB_intro (fun b hb => ?_); simp only [ln_cons2, ln_nil, and_true] at hb) | (with_reducible apply And.intro; (focus (first | omega | (simp only [Fact, Bool.not_eq_true', Bool.not_eq_false', decide_eq_true_eq, decide_eq_false_iff_not] at *; omega)))) | ((first | refine gW_sp ?_ | refine condW_sp ?_ | refine pickW_sp ?_); (try refine Sp_n ?_); (first | refine Sp_t (by assumption) ?_ | refine Sp_f (by assumption) ?_ | refine Sp_split (fun h => ?_) (fun h => ?_)) <;> (first | have h' := Fact_lt h | have h' := Fact_nlt h | have h' := Fact_le h | have h' := Fact_nle h | skip) <;> (try (exfalso; omega))) | refine TreeW_intro (by rfl) ?_ | refine TreeW_all ?_ | refine upQ_intro ?_ | refine Two_intro ?_ ?_ | (refine leK_lit ?_; (simp [-List.getD_eq_getElem?_getD, LeL, lk, *]; done)) | (refine leK_dd ?_; (simp [-List.getD_eq_getElem?_getD, LeS, LeL, lk, *]; done)) | (simp only [Fact, Bool.not_eq_true', Bool.not_eq_false', decide_eq_true_eq, decide_eq_false_iff_not] at *; refine leK_dd ?_; (simp [-List.getD_eq_getElem?_getD, LeS, LeL, lk, *]; done)) | (show (_ : Nat) ≤ _; omega)) <;> (try simp (disch := omega) only [*, ↓Ed, Eu, ↓reduceIte, reduceCtorEq, Nat.reduceAdd, Nat.reduceEqDiff, Nat.reduceLT, Nat.reduceLeDiff, Int.reduceToNat, Int.reduceEq, Int.reduceLT, Int.reduceLE, Int.toNat_natCast, al_so, al_al, al_pc, al_rc, al_pst, al_rst, w64, List.length_append, List.length_map, Nat.mul_one, beq_self_eq_true, Lim.cs, PathC.cs, RuleC.cs, gdP, gdR, gdN, bl]))
  rfl
theorem t_WByte (b : Nat) (l : List UInt8) (c : UInt8) (h : l.length ≤ 100000000) : CT Tryd.prog 17 [.ptr b 0, .int .u8 (c.toNat : Int)] (lk [(b, bld b l)]) (fun r o => r = .nili ∧ o = lk [(b, bld b (l ++ [c]))]) := by
  have hm : maxLen = 9223372036854775807 := rfl
  refine okt_strings_Builder_WriteByte _ _ _ (by simp) ?_
  simp only [c_strings_Builder_WriteByte, ↓Ed, Eu, ↓reduceIte, reduceCtorEq, Nat.reduceAdd, Nat.reduceEqDiff, Nat.reduceLT, Nat.reduceLeDiff, Int.reduceToNat, Int.reduceEq, Int.reduceLT, Int.reduceLE, Int.toNat_natCast, al_so, al_al, al_pc, al_rc, al_pst, al_rst, w64, List.length_append, List.length_map, Nat.mul_one, beq_self_eq_true, Lim.cs, PathC.cs, RuleC.cs, gdP, gdR, gdN, bl]
  repeat' ((first | (refine' CallO_det (t_copy1 b (.sl (some 5) 1 (bts l))) (lk_sub1 ?_) ?_; rotate_right 2; (focus ((repeat (first | exact lk_hd _ _ _ | (refine lk_tl ?_ ?_; (focus (first | assumption | (simp only [*, not_false_eq_true]; done)))))); done))) | refine NewB_intro0 (fun b => ?_) | (refine NewB_intro (fun b hb => ?_); simp only [ln_cons2, ln_nil, and_true] at hb) | (with_reducible apply And.intro; (focus (first | omega | (simp only [Fact, Bool.not_eq_true', Bool.not_eq_false', decide_eq_true_eq, decide_eq_false_iff_not] at *; omega)))) | ((first | refine gW_sp ?_ | refine condW_sp ?_ | refine pickW_sp ?_); (try refine Sp_n ?_); (first | refine Sp_t (by assumption) ?_ | refine Sp_f (by assumption) ?_ | refine Sp_split (fun h => ?_) (fun h => ?_)) <;> (first | have h' := Fact_lt h | have h' := Fact_nlt h | have h' := Fact_le h | have h' := Fact_nle h | skip) <;> (try (exfalso; omega))) | refine TreeW_intro (by rfl) ?_ | refine TreeW_all ?_ | refine upQ_intro ?_ | refine Two_intro ?_ ?_ | (refine leK_lit ?_; (simp [-List.getD_eq_getElem?_getD, LeL, lk, *]; done)) | (refine leK_dd ?_; (simp [-List.getD_eq_getElem?_getD, LeS, LeL, lk, *]; done)) | (simp only [Fact, Bool.not_eq_true', Bool.not_eq_false', decide_eq_true_eq, decide_eq_false_iff_not] at *; refine leK_dd ?_; (simp [-List.getD_eq_getElem?_getD, LeS, LeL, lk, *]; done)) | (show (_ : Nat) ≤ _; omega)) <;> (try simp (disch := omega) only [*, ↓Ed, Eu, ↓reduceIte, reduceCtorEq, Nat.reduceAdd, Nat.reduceEqDiff, Nat.reduceLT, Nat.reduceLeDiff, Int.reduceToNat, Int.reduceEq, Int.reduceLT, Int.reduceLE, Int.toNat_natCast, al_so, al_al, al_pc, al_rc, al_pst, al_rst, w64, List.length_append, List.length_map, Nat.mul_one, beq_self_eq_true, Lim.cs, PathC.cs, RuleC.cs, gdP, gdR, gdN, bl]))
  exact ro_mk (by simp [LeL, lk, resR, arR, bts, byteEl]) domB
theorem take_add {α : Type} [Inhabited α] {β : Type} (f : α → β) {l : List α} {k : Nat} (h : k < l.length) : (l.take (k + 1)).map f = (l.take k).map f ++ [f (l.getD k default)] := by
  have e : l.take (k + 1) = l.take k ++ [l.getD k default] := by rw [List.take_succ]; simp [h]
  rw [e]; simp
noncomputable def outC (l : List (List (List UInt8))) : List UInt8 := endL (l.map lnOf)
theorem out_step {l : List (List (List UInt8))} {k : Nat} (h : k < l.length) : outC (l.take (k + 1)) = outC (l.take k) ++ lnOf (l.getD k []) ++ [10] := by
  have e : l.take (k + 1) = l.take k ++ [l.getD k []] := by rw [List.take_succ]; simp [h]
  rw [e]; simp [outC, endL]
theorem out_len {l : List (List (List UInt8))} (h : ∀ w ∈ l, (lnOf w).length ≤ 95) : ∀ k, k ≤ l.length → (outC (l.take k)).length ≤ k * 96
  | 0, _ => by simp [outC, endL]
  | k + 1, hk => by
    have := out_len h k (by omega)
    have h2 := h (l.getD k []) (by rw [List.getD, List.getElem?_eq_getElem (by omega)]; exact List.getElem_mem _)
    rw [out_step (by omega)]
    simp only [List.length_append, List.length_cons, List.length_nil]
    omega
theorem out_nil : outC [] = [] := rfl
theorem text_out (c : Conf) : textC c = outC (wordsC c) := rfl
theorem u8_10 : ((10 : UInt8).toNat : Int) = 10 := rfl
theorem wsC (c : Conf) : [chainW [97] c.a c.la, chainW [98] c.b c.lb] ++ c.ps.map pathWs ++ c.rs.map ruleWs ++ [ivWs c.iv] = wordsC c := by simp [wordsC]
theorem wordsC_w {c : Conf} (h : confQ c) : ∀ w ∈ wordsC c, w.length ≤ 9 := fun w hw => by
  simp only [wordsC, List.mem_cons, List.mem_append, List.mem_map, List.not_mem_nil, or_false] at hw
  rcases hw with rfl | rfl | ⟨p, hp, rfl⟩ | ⟨r, hr, rfl⟩ | rfl <;> simp [chainW, pathWs, ruleWs, ivWs]
set_option maxHeartbeats 4000000 in
theorem p_cPrint (c : Conf) (p1 r1 : AV) (h1 : p1.alias = .sl none 5 (pths c.ps)) (h2 : r1.alias = .sl none 2 (rls c.rs)) (l1 : c.ps.length ≤ maxLen) (l2 : c.rs.length ≤ maxLen)
    (sa : c.a.length ≤ 1000000) (sb : c.b.length ≤ 1000000) (sp : ∀ i, (c.ps.getD i default).ap.length ≤ 1000000 ∧ (c.ps.getD i default).bp.length ≤ 1000000) (sr : ∀ i, (c.rs.getD i default).pt.length ≤ 1000000) :
    CP Tryd.prog 7 [.agg (cfX c p1 r1)] (.tup [.str (printC c).1, .int .i64 (printC c).2]) := by
  have hm : maxLen = 9223372036854775807 := rfl
  have hM := p_cMay c p1.store r1.store (by rw [al_so, h1]) (by rw [al_so, h2]) l1 l2 sa sb sp sr
  refine ok_conf_Print _ _ (by simp) ?_
  by_cases hq : confQ c
  rotate_left
  · rw [confMay_f hq] at hM
    have e : printC c = ([], 1) := by unfold printC; rw [confMay_f hq, if_neg (by decide)]
    rw [e]
    clear e hq sp sr
    simp only [c_conf_Print, ↓Ed, Eu, ↓reduceIte, reduceCtorEq, Nat.reduceAdd, Nat.reduceEqDiff, Nat.reduceLT, Nat.reduceLeDiff, Int.reduceToNat, Int.reduceEq, Int.reduceLT, Int.reduceLE, Int.toNat_natCast, al_so, al_al, al_pc, al_rc, al_pst, al_rst, w64, List.length_append, List.length_map, Nat.mul_one, beq_self_eq_true, Lim.cs, PathC.cs, RuleC.cs, gdP, gdR, gdN, bl]
    repeat' ((first | refine CallO_pure (hM) ?_ | refine NewB_intro0 (fun b => ?_) | (refine NewB_intro (fun b hb => ?_); simp only [ln_cons2, ln_nil, and_true] at hb) | (with_reducible apply And.intro; (focus (first | omega | (simp only [Fact, Bool.not_eq_true', Bool.not_eq_false', decide_eq_true_eq, decide_eq_false_iff_not] at *; omega)))) | ((first | refine gW_sp ?_ | refine condW_sp ?_ | refine pickW_sp ?_); (try refine Sp_n ?_); (first | refine Sp_t (by assumption) ?_ | refine Sp_f (by assumption) ?_ | refine Sp_split (fun h => ?_) (fun h => ?_)) <;> (first | have h' := Fact_lt h | have h' := Fact_nlt h | have h' := Fact_le h | have h' := Fact_nle h | skip) <;> (try (exfalso; omega))) | refine TreeW_intro (by rfl) ?_ | refine TreeW_all ?_ | refine upQ_intro ?_ | refine Two_intro ?_ ?_ | (refine leK_lit ?_; (simp [-List.getD_eq_getElem?_getD, LeL, lk, *]; done)) | (refine leK_dd ?_; (simp [-List.getD_eq_getElem?_getD, LeS, LeL, lk, *]; done)) | (simp only [Fact, Bool.not_eq_true', Bool.not_eq_false', decide_eq_true_eq, decide_eq_false_iff_not] at *; refine leK_dd ?_; (simp [-List.getD_eq_getElem?_getD, LeS, LeL, lk, *]; done)) | (show (_ : Nat) ≤ _; omega)) <;> (try simp (disch := omega) only [*, ↓Ed, Eu, ↓reduceIte, reduceCtorEq, Nat.reduceAdd, Nat.reduceEqDiff, Nat.reduceLT, Nat.reduceLeDiff, Int.reduceToNat, Int.reduceEq, Int.reduceLT, Int.reduceLE, Int.toNat_natCast, al_so, al_al, al_pc, al_rc, al_pst, al_rst, w64, List.length_append, List.length_map, Nat.mul_one, beq_self_eq_true, Lim.cs, PathC.cs, RuleC.cs, gdP, gdR, gdN, bl]))
  rw [confMay_t hq] at hM
  have e : printC c = (textC c, 0) := by unfold printC; rw [confMay_t hq, if_pos rfl]
  rw [e]
  have hL1 := p_chainLine [97] c.a c.la hq.2.2.2.1
  have hL2 := p_chainLine [98] c.b c.lb hq.2.2.2.2.1
  have hIv := p_Itoa c.iv (by have := hq.2.2.2.2.2.1; unfold ivQ at this; omega)
  have hT1 := fun i => p_Text (c.ps.getD i default).ap (c.ps.getD i default).ac (sp i).1
  have hT2 := fun i => p_Text (c.ps.getD i default).bp (c.ps.getD i default).bc (sp i).2
  have n1 := hq.2.2.2.2.2.2.1
  have n2 := hq.2.2.2.2.2.2.2.1
  have hln := ln_conf hq
  have hwl := wordsC_w hq
  have hwn := wordsC_len hq
  clear e hq sp sr sa sb
  simp only [c_conf_Print, ↓Ed, Eu, ↓reduceIte, reduceCtorEq, Nat.reduceAdd, Nat.reduceEqDiff, Nat.reduceLT, Nat.reduceLeDiff, Int.reduceToNat, Int.reduceEq, Int.reduceLT, Int.reduceLE, Int.toNat_natCast, al_so, al_al, al_pc, al_rc, al_pst, al_rst, w64, List.length_append, List.length_map, Nat.mul_one, beq_self_eq_true, Lim.cs, PathC.cs, RuleC.cs, gdP, gdR, gdN, bl]
  repeat' ((first | refine CallO_pure (hM) ?_ | refine CallW_intro (hL1) ?_ | refine CallW_intro (hL2) ?_ | refine NewB_intro0 (fun b => ?_) | (refine NewB_intro (fun b hb => ?_); simp only [ln_cons2, ln_nil, and_true] at hb) | (with_reducible apply And.intro; (focus (first | omega | (simp only [Fact, Bool.not_eq_true', Bool.not_eq_false', decide_eq_true_eq, decide_eq_false_iff_not] at *; omega)))) | ((first | refine gW_sp ?_ | refine condW_sp ?_ | refine pickW_sp ?_); (try refine Sp_n ?_); (first | refine Sp_t (by assumption) ?_ | refine Sp_f (by assumption) ?_ | refine Sp_split (fun h => ?_) (fun h => ?_)) <;> (first | have h' := Fact_lt h | have h' := Fact_nlt h | have h' := Fact_le h | have h' := Fact_nle h | skip) <;> (try (exfalso; omega))) | refine TreeW_intro (by rfl) ?_ | refine TreeW_all ?_ | refine upQ_intro ?_ | refine Two_intro ?_ ?_ | (refine leK_lit ?_; (simp [-List.getD_eq_getElem?_getD, LeL, lk, *]; done)) | (refine leK_dd ?_; (simp [-List.getD_eq_getElem?_getD, LeS, LeL, lk, *]; done)) | (simp only [Fact, Bool.not_eq_true', Bool.not_eq_false', decide_eq_true_eq, decide_eq_false_iff_not] at *; refine leK_dd ?_; (simp [-List.getD_eq_getElem?_getD, LeS, LeL, lk, *]; done)) | (show (_ : Nat) ≤ _; omega)) <;> (try simp (disch := omega) only [*, ↓Ed, Eu, ↓reduceIte, reduceCtorEq, Nat.reduceAdd, Nat.reduceEqDiff, Nat.reduceLT, Nat.reduceLeDiff, Int.reduceToNat, Int.reduceEq, Int.reduceLT, Int.reduceLE, Int.toNat_natCast, al_so, al_al, al_pc, al_rc, al_pst, al_rst, w64, List.length_append, List.length_map, Nat.mul_one, beq_self_eq_true, Lim.cs, PathC.cs, RuleC.cs, gdP, gdR, gdN, bl]))
  refine wpx_loop (fun k : Nat => ⟨lk [(1, .ptr b 0), (4, .sl (some 36) 1 (lns ([chainW [97] c.a c.la, chainW [98] c.b c.lb] ++ (c.ps.take k).map pathWs))), (29, .sl none 5 (pths c.ps)), (30, .int .i64 c.ps.length), (31, .int .i64 (k : Int))], lk [(b, [.str c.a, .str c.b, .int .i64 c.la.g, .int .i64 c.la.b, .int .i64 c.la.n, .int .i64 c.lb.g, .int .i64 c.lb.b, .int .i64 c.lb.n, p1.store, r1.store, .int .i64 c.iv])]⟩) (fun k => k ≤ c.ps.length) (fun k => c.ps.length - k) 0 (by omega) (Le_lit (by simp [LeL, lk])) ?_
  intro k g1
  by_cases hk : k < c.ps.length
  · have f5 : Fact (decide ((k : Int) < c.ps.length) = true) := by simp only [Fact, Bool.not_eq_true', Bool.not_eq_false', decide_eq_true_eq, decide_eq_false_iff_not]; omega
    have hlt : (c.ps.take k).length = k := by simp; omega
    have q1 := hT1 k
    have q2 := hT2 k
    have ha := take_add pathWs hk
    cases ho : (c.ps.getD k default).o
    all_goals simp (disch := omega) only [ho, h1, h2, ↓Ed, Eu, ↓reduceIte, reduceCtorEq, Nat.reduceAdd, Nat.reduceEqDiff, Nat.reduceLT, Nat.reduceLeDiff, Int.reduceToNat, Int.reduceEq, Int.reduceLT, Int.reduceLE, Int.toNat_natCast, al_so, al_al, al_pc, al_rc, al_pst, al_rst, w64, List.length_append, List.length_map, Nat.mul_one, beq_self_eq_true, Lim.cs, PathC.cs, RuleC.cs, gdP, gdR, gdN, bl]
    all_goals repeat' ((first | refine CallW_intro (q1) ?_ | refine CallW_intro (q2) ?_ | refine NewB_intro0 (fun b => ?_) | (refine NewB_intro (fun b hb => ?_); simp only [ln_cons2, ln_nil, and_true] at hb) | (with_reducible apply And.intro; (focus (first | omega | (simp only [Fact, Bool.not_eq_true', Bool.not_eq_false', decide_eq_true_eq, decide_eq_false_iff_not] at *; omega)))) | ((first | refine gW_sp ?_ | refine condW_sp ?_ | refine pickW_sp ?_); (try refine Sp_n ?_); (first | refine Sp_t (by assumption) ?_ | refine Sp_f (by assumption) ?_ | refine Sp_split (fun h => ?_) (fun h => ?_)) <;> (first | have h' := Fact_lt h | have h' := Fact_nlt h | have h' := Fact_le h | have h' := Fact_nle h | skip) <;> (try (exfalso; omega))) | refine TreeW_intro (by rfl) ?_ | refine TreeW_all ?_ | refine upQ_intro ?_ | refine Two_intro ?_ ?_ | (refine leK_lit ?_; (simp [-List.getD_eq_getElem?_getD, LeL, lk, *]; done)) | (refine leK_dd ?_; (simp [-List.getD_eq_getElem?_getD, LeS, LeL, lk, *]; done)) | (simp only [Fact, Bool.not_eq_true', Bool.not_eq_false', decide_eq_true_eq, decide_eq_false_iff_not] at *; refine leK_dd ?_; (simp [-List.getD_eq_getElem?_getD, LeS, LeL, lk, *]; done)) | (show (_ : Nat) ≤ _; omega)) <;> (try simp (disch := omega) only [*, ↓Ed, Eu, ↓reduceIte, reduceCtorEq, Nat.reduceAdd, Nat.reduceEqDiff, Nat.reduceLT, Nat.reduceLeDiff, Int.reduceToNat, Int.reduceEq, Int.reduceLT, Int.reduceLE, Int.toNat_natCast, al_so, al_al, al_pc, al_rc, al_pst, al_rst, w64, List.length_append, List.length_map, Nat.mul_one, beq_self_eq_true, Lim.cs, PathC.cs, RuleC.cs, gdP, gdR, gdN, bl]))
    all_goals exact Round_lit (k + 1) ⟨Le_lit (by simp [-List.getD_eq_getElem?_getD, LeL, lk, hb, ha, lns, pathWs, ho, List.append_assoc]), by omega, by omega⟩
  have f5 : Fact (decide ((k : Int) < c.ps.length) = false) := by simp only [Fact, Bool.not_eq_true', Bool.not_eq_false', decide_eq_true_eq, decide_eq_false_iff_not]; omega
  rw [List.take_of_length_le (by omega)]
  simp (disch := omega) only [h1, h2, ↓Ed, Eu, ↓reduceIte, reduceCtorEq, Nat.reduceAdd, Nat.reduceEqDiff, Nat.reduceLT, Nat.reduceLeDiff, Int.reduceToNat, Int.reduceEq, Int.reduceLT, Int.reduceLE, Int.toNat_natCast, al_so, al_al, al_pc, al_rc, al_pst, al_rst, w64, List.length_append, List.length_map, Nat.mul_one, beq_self_eq_true, Lim.cs, PathC.cs, RuleC.cs, gdP, gdR, gdN, bl]
  repeat' ((first | refine NewB_intro0 (fun b => ?_) | (refine NewB_intro (fun b hb => ?_); simp only [ln_cons2, ln_nil, and_true] at hb) | (with_reducible apply And.intro; (focus (first | omega | (simp only [Fact, Bool.not_eq_true', Bool.not_eq_false', decide_eq_true_eq, decide_eq_false_iff_not] at *; omega)))) | ((first | refine gW_sp ?_ | refine condW_sp ?_ | refine pickW_sp ?_); (try refine Sp_n ?_); (first | refine Sp_t (by assumption) ?_ | refine Sp_f (by assumption) ?_ | refine Sp_split (fun h => ?_) (fun h => ?_)) <;> (first | have h' := Fact_lt h | have h' := Fact_nlt h | have h' := Fact_le h | have h' := Fact_nle h | skip) <;> (try (exfalso; omega))) | refine TreeW_intro (by rfl) ?_ | refine TreeW_all ?_ | refine upQ_intro ?_ | refine Two_intro ?_ ?_ | (refine leK_lit ?_; (simp [-List.getD_eq_getElem?_getD, LeL, lk, *]; done)) | (refine leK_dd ?_; (simp [-List.getD_eq_getElem?_getD, LeS, LeL, lk, *]; done)) | (simp only [Fact, Bool.not_eq_true', Bool.not_eq_false', decide_eq_true_eq, decide_eq_false_iff_not] at *; refine leK_dd ?_; (simp [-List.getD_eq_getElem?_getD, LeS, LeL, lk, *]; done)) | (show (_ : Nat) ≤ _; omega)) <;> (try simp (disch := omega) only [*, ↓Ed, Eu, ↓reduceIte, reduceCtorEq, Nat.reduceAdd, Nat.reduceEqDiff, Nat.reduceLT, Nat.reduceLeDiff, Int.reduceToNat, Int.reduceEq, Int.reduceLT, Int.reduceLE, Int.toNat_natCast, al_so, al_al, al_pc, al_rc, al_pst, al_rst, w64, List.length_append, List.length_map, Nat.mul_one, beq_self_eq_true, Lim.cs, PathC.cs, RuleC.cs, gdP, gdR, gdN, bl]))
  clear f5 g1 hk
  refine wpx_loop (fun k : Nat => ⟨lk [(1, .ptr b 0), (4, .sl (some 36) 1 (lns ([chainW [97] c.a c.la, chainW [98] c.b c.lb] ++ c.ps.map pathWs ++ (c.rs.take k).map ruleWs))), (50, .sl none 2 (rls c.rs)), (51, .int .i64 c.rs.length), (52, .int .i64 (k : Int))], lk [(b, [.str c.a, .str c.b, .int .i64 c.la.g, .int .i64 c.la.b, .int .i64 c.la.n, .int .i64 c.lb.g, .int .i64 c.lb.b, .int .i64 c.lb.n, p1.store, r1.store, .int .i64 c.iv])]⟩) (fun k => k ≤ c.rs.length) (fun k => c.rs.length - k) 0 (by omega) (Le_lit (by simp [LeL, lk])) ?_
  intro k g1
  by_cases hk : k < c.rs.length
  · have f5 : Fact (decide ((k : Int) < c.rs.length) = true) := by simp only [Fact, Bool.not_eq_true', Bool.not_eq_false', decide_eq_true_eq, decide_eq_false_iff_not]; omega
    have hlt : (c.rs.take k).length = k := by simp; omega
    have ha := take_add ruleWs hk
    cases ho : (c.rs.getD k default).al
    all_goals simp (disch := omega) only [ho, h1, h2, ↓Ed, Eu, ↓reduceIte, reduceCtorEq, Nat.reduceAdd, Nat.reduceEqDiff, Nat.reduceLT, Nat.reduceLeDiff, Int.reduceToNat, Int.reduceEq, Int.reduceLT, Int.reduceLE, Int.toNat_natCast, al_so, al_al, al_pc, al_rc, al_pst, al_rst, w64, List.length_append, List.length_map, Nat.mul_one, beq_self_eq_true, Lim.cs, PathC.cs, RuleC.cs, gdP, gdR, gdN, bl]
    all_goals repeat' ((first | refine NewB_intro0 (fun b => ?_) | (refine NewB_intro (fun b hb => ?_); simp only [ln_cons2, ln_nil, and_true] at hb) | (with_reducible apply And.intro; (focus (first | omega | (simp only [Fact, Bool.not_eq_true', Bool.not_eq_false', decide_eq_true_eq, decide_eq_false_iff_not] at *; omega)))) | ((first | refine gW_sp ?_ | refine condW_sp ?_ | refine pickW_sp ?_); (try refine Sp_n ?_); (first | refine Sp_t (by assumption) ?_ | refine Sp_f (by assumption) ?_ | refine Sp_split (fun h => ?_) (fun h => ?_)) <;> (first | have h' := Fact_lt h | have h' := Fact_nlt h | have h' := Fact_le h | have h' := Fact_nle h | skip) <;> (try (exfalso; omega))) | refine TreeW_intro (by rfl) ?_ | refine TreeW_all ?_ | refine upQ_intro ?_ | refine Two_intro ?_ ?_ | (refine leK_lit ?_; (simp [-List.getD_eq_getElem?_getD, LeL, lk, *]; done)) | (refine leK_dd ?_; (simp [-List.getD_eq_getElem?_getD, LeS, LeL, lk, *]; done)) | (simp only [Fact, Bool.not_eq_true', Bool.not_eq_false', decide_eq_true_eq, decide_eq_false_iff_not] at *; refine leK_dd ?_; (simp [-List.getD_eq_getElem?_getD, LeS, LeL, lk, *]; done)) | (show (_ : Nat) ≤ _; omega)) <;> (try simp (disch := omega) only [*, ↓Ed, Eu, ↓reduceIte, reduceCtorEq, Nat.reduceAdd, Nat.reduceEqDiff, Nat.reduceLT, Nat.reduceLeDiff, Int.reduceToNat, Int.reduceEq, Int.reduceLT, Int.reduceLE, Int.toNat_natCast, al_so, al_al, al_pc, al_rc, al_pst, al_rst, w64, List.length_append, List.length_map, Nat.mul_one, beq_self_eq_true, Lim.cs, PathC.cs, RuleC.cs, gdP, gdR, gdN, bl]))
    all_goals exact Round_lit (k + 1) ⟨Le_lit (by simp [-List.getD_eq_getElem?_getD, LeL, lk, hb, ha, lns, ruleWs, ho, List.append_assoc]), by omega, by omega⟩
  have f5 : Fact (decide ((k : Int) < c.rs.length) = false) := by simp only [Fact, Bool.not_eq_true', Bool.not_eq_false', decide_eq_true_eq, decide_eq_false_iff_not]; omega
  rw [List.take_of_length_le (by omega)]
  have hws : lns ([chainW [97] c.a c.la, chainW [98] c.b c.lb] ++ c.ps.map pathWs ++ c.rs.map ruleWs) ++ [[AV.sl none 1 [[AV.str [105, 110, 116, 101, 114, 118, 97, 108]], [AV.str (Lib.itoa c.iv)]]]] = lns (wordsC c) := by rw [← wsC]; simp [lns, ivWs]
  have hwsL := congrArg List.length hws
  simp only [List.length_append, List.length_map, List.length_cons, List.length_nil] at hwsL
  simp (disch := omega) only [h1, h2, ↓Ed, Eu, ↓reduceIte, reduceCtorEq, Nat.reduceAdd, Nat.reduceEqDiff, Nat.reduceLT, Nat.reduceLeDiff, Int.reduceToNat, Int.reduceEq, Int.reduceLT, Int.reduceLE, Int.toNat_natCast, al_so, al_al, al_pc, al_rc, al_pst, al_rst, w64, List.length_append, List.length_map, Nat.mul_one, beq_self_eq_true, Lim.cs, PathC.cs, RuleC.cs, gdP, gdR, gdN, bl]
  repeat' ((first | refine CallO_pure (hIv) ?_ | refine NewB_intro0 (fun b => ?_) | (refine NewB_intro (fun b hb => ?_); simp only [ln_cons2, ln_nil, and_true] at hb) | (with_reducible apply And.intro; (focus (first | omega | (simp only [Fact, Bool.not_eq_true', Bool.not_eq_false', decide_eq_true_eq, decide_eq_false_iff_not] at *; omega)))) | ((first | refine gW_sp ?_ | refine condW_sp ?_ | refine pickW_sp ?_); (try refine Sp_n ?_); (first | refine Sp_t (by assumption) ?_ | refine Sp_f (by assumption) ?_ | refine Sp_split (fun h => ?_) (fun h => ?_)) <;> (first | have h' := Fact_lt h | have h' := Fact_nlt h | have h' := Fact_le h | have h' := Fact_nle h | skip) <;> (try (exfalso; omega))) | refine TreeW_intro (by rfl) ?_ | refine TreeW_all ?_ | refine upQ_intro ?_ | refine Two_intro ?_ ?_ | (refine leK_lit ?_; (simp [-List.getD_eq_getElem?_getD, LeL, lk, *]; done)) | (refine leK_dd ?_; (simp [-List.getD_eq_getElem?_getD, LeS, LeL, lk, *]; done)) | (simp only [Fact, Bool.not_eq_true', Bool.not_eq_false', decide_eq_true_eq, decide_eq_false_iff_not] at *; refine leK_dd ?_; (simp [-List.getD_eq_getElem?_getD, LeS, LeL, lk, *]; done)) | (show (_ : Nat) ≤ _; omega)) <;> (try simp (disch := omega) only [*, ↓Ed, Eu, ↓reduceIte, reduceCtorEq, Nat.reduceAdd, Nat.reduceEqDiff, Nat.reduceLT, Nat.reduceLeDiff, Int.reduceToNat, Int.reduceEq, Int.reduceLT, Int.reduceLE, Int.toNat_natCast, al_so, al_al, al_pc, al_rc, al_pst, al_rst, w64, List.length_append, List.length_map, Nat.mul_one, beq_self_eq_true, Lim.cs, PathC.cs, RuleC.cs, gdP, gdR, gdN, bl]))
  rename Nat => d
  rename ¬ _ = _ ∧ _ => hbd
  clear f5 g1 hk
  rw [text_out]
  have hL0 := hwn
  refine wpx_loop (fun k : Nat => ⟨lk [(11, .ptr d 0), (73, .sl none 1 (lns (wordsC c))), (74, .int .i64 (wordsC c).length), (75, .int .i64 (k : Int))], lk [(d, bl d k (outC ((wordsC c).take k)))]⟩) (fun k => k ≤ (wordsC c).length) (fun k => (wordsC c).length - k) 0 (by omega) (Le_lit (by simp [LeL, lk, bl, bts, outC, endL, ← hws, ← hwsL, hbd])) ?_
  intro k g1
  have hlen := out_len hln k g1
  by_cases hk : k < (wordsC c).length
  · have f5 : Fact (decide ((k : Int) < (wordsC c).length) = true) := by simp only [Fact, Bool.not_eq_true', Bool.not_eq_false', decide_eq_true_eq, decide_eq_false_iff_not]; omega
    have hmem : (wordsC c).getD k [] ∈ wordsC c := by rw [List.getD, List.getElem?_eq_getElem hk]; exact List.getElem_mem _
    have e1 := hln _ hmem
    have e2 := hwl _ hmem
    have hJ := p_Join none 32 ((wordsC c).getD k []) (by omega) (by show (lnOf _).length ≤ _; omega)
    have hst := out_step hk
    rcases Nat.eq_zero_or_pos k with h0 | h0
    · subst h0
      have hw := fun b => t_Write0 b (lnOf ((wordsC c).getD 0 [])) (by omega)
      have hw2 := fun b => t_WByte b (lnOf ((wordsC c).getD 0 [])) 10 (by omega)
      simp (disch := omega) only [← u8_10, ↓Ed, Eu, ↓reduceIte, reduceCtorEq, Nat.reduceAdd, Nat.reduceEqDiff, Nat.reduceLT, Nat.reduceLeDiff, Int.reduceToNat, Int.reduceEq, Int.reduceLT, Int.reduceLE, Int.toNat_natCast, al_so, al_al, al_pc, al_rc, al_pst, al_rst, w64, List.length_append, List.length_map, Nat.mul_one, beq_self_eq_true, Lim.cs, PathC.cs, RuleC.cs, gdP, gdR, gdN, bl]
      repeat' ((first | refine CallO_pure (hJ) ?_ | (refine' CallO_det (hw d) (lk_sub1 ?_) ?_; rotate_right 2; (focus ((repeat (first | exact lk_hd _ _ _ | (refine lk_tl ?_ ?_; (focus (first | assumption | (simp only [*, not_false_eq_true]; done)))))); done))) | (refine' CallO_det (hw2 d) (lk_sub1 ?_) ?_; rotate_right 2; (focus ((repeat (first | exact lk_hd _ _ _ | (refine lk_tl ?_ ?_; (focus (first | assumption | (simp only [*, not_false_eq_true]; done)))))); done))) | refine NewB_intro0 (fun b => ?_) | (refine NewB_intro (fun b hb => ?_); simp only [ln_cons2, ln_nil, and_true] at hb) | (with_reducible apply And.intro; (focus (first | omega | (simp only [Fact, Bool.not_eq_true', Bool.not_eq_false', decide_eq_true_eq, decide_eq_false_iff_not] at *; omega)))) | ((first | refine gW_sp ?_ | refine condW_sp ?_ | refine pickW_sp ?_); (try refine Sp_n ?_); (first | refine Sp_t (by assumption) ?_ | refine Sp_f (by assumption) ?_ | refine Sp_split (fun h => ?_) (fun h => ?_)) <;> (first | have h' := Fact_lt h | have h' := Fact_nlt h | have h' := Fact_le h | have h' := Fact_nle h | skip) <;> (try (exfalso; omega))) | refine TreeW_intro (by rfl) ?_ | refine TreeW_all ?_ | refine upQ_intro ?_ | refine Two_intro ?_ ?_ | (refine leK_lit ?_; (simp [-List.getD_eq_getElem?_getD, LeL, lk, *]; done)) | (refine leK_dd ?_; (simp [-List.getD_eq_getElem?_getD, LeS, LeL, lk, *]; done)) | (simp only [Fact, Bool.not_eq_true', Bool.not_eq_false', decide_eq_true_eq, decide_eq_false_iff_not] at *; refine leK_dd ?_; (simp [-List.getD_eq_getElem?_getD, LeS, LeL, lk, *]; done)) | (show (_ : Nat) ≤ _; omega)) <;> (try simp (disch := omega) only [*, ↓Ed, Eu, ↓reduceIte, reduceCtorEq, Nat.reduceAdd, Nat.reduceEqDiff, Nat.reduceLT, Nat.reduceLeDiff, Int.reduceToNat, Int.reduceEq, Int.reduceLT, Int.reduceLE, Int.toNat_natCast, al_so, al_al, al_pc, al_rc, al_pst, al_rst, w64, List.length_append, List.length_map, Nat.mul_one, beq_self_eq_true, Lim.cs, PathC.cs, RuleC.cs, gdP, gdR, gdN, bl]))
      exact Round_lit (0 + 1) ⟨Le_lit (by simp [-List.getD_eq_getElem?_getD, LeL, lk, hst, bl, bts, out_nil]), by omega, by omega⟩
    · have hw := fun b => t_Write b (outC ((wordsC c).take k)) (lnOf ((wordsC c).getD k [])) (by omega)
      have hw2 := fun b => t_WByte b (outC ((wordsC c).take k) ++ lnOf ((wordsC c).getD k [])) 10 (by simp only [List.length_append]; omega)
      have hk0 : ¬ k = 0 := by omega
      simp (disch := omega) only [hk0, ↓Ed, Eu, ↓reduceIte, reduceCtorEq, Nat.reduceAdd, Nat.reduceEqDiff, Nat.reduceLT, Nat.reduceLeDiff, Int.reduceToNat, Int.reduceEq, Int.reduceLT, Int.reduceLE, Int.toNat_natCast, al_so, al_al, al_pc, al_rc, al_pst, al_rst, w64, List.length_append, List.length_map, Nat.mul_one, beq_self_eq_true, Lim.cs, PathC.cs, RuleC.cs, gdP, gdR, gdN, bl]
      repeat' ((first | refine CallO_pure (hJ) ?_ | (refine' CallO_det (hw d) (lk_sub1 ?_) ?_; rotate_right 2; (focus ((repeat (first | exact lk_hd _ _ _ | (refine lk_tl ?_ ?_; (focus (first | assumption | (simp only [*, not_false_eq_true]; done)))))); done))) | (refine' CallO_det (hw2 d) (lk_sub1 ?_) ?_; rotate_right 2; (focus ((repeat (first | exact lk_hd _ _ _ | (refine lk_tl ?_ ?_; (focus (first | assumption | (simp only [*, not_false_eq_true]; done)))))); done))) | refine NewB_intro0 (fun b => ?_) | (refine NewB_intro (fun b hb => ?_); simp only [ln_cons2, ln_nil, and_true] at hb) | (with_reducible apply And.intro; (focus (first | omega | (simp only [Fact, Bool.not_eq_true', Bool.not_eq_false', decide_eq_true_eq, decide_eq_false_iff_not] at *; omega)))) | ((first | refine gW_sp ?_ | refine condW_sp ?_ | refine pickW_sp ?_); (try refine Sp_n ?_); (first | refine Sp_t (by assumption) ?_ | refine Sp_f (by assumption) ?_ | refine Sp_split (fun h => ?_) (fun h => ?_)) <;> (first | have h' := Fact_lt h | have h' := Fact_nlt h | have h' := Fact_le h | have h' := Fact_nle h | skip) <;> (try (exfalso; omega))) | refine TreeW_intro (by rfl) ?_ | refine TreeW_all ?_ | refine upQ_intro ?_ | refine Two_intro ?_ ?_ | (refine leK_lit ?_; (simp [-List.getD_eq_getElem?_getD, LeL, lk, *]; done)) | (refine leK_dd ?_; (simp [-List.getD_eq_getElem?_getD, LeS, LeL, lk, *]; done)) | (simp only [Fact, Bool.not_eq_true', Bool.not_eq_false', decide_eq_true_eq, decide_eq_false_iff_not] at *; refine leK_dd ?_; (simp [-List.getD_eq_getElem?_getD, LeS, LeL, lk, *]; done)) | (show (_ : Nat) ≤ _; omega)) <;> (try simp (disch := omega) only [*, ↓Ed, Eu, ↓reduceIte, reduceCtorEq, Nat.reduceAdd, Nat.reduceEqDiff, Nat.reduceLT, Nat.reduceLeDiff, Int.reduceToNat, Int.reduceEq, Int.reduceLT, Int.reduceLE, Int.toNat_natCast, al_so, al_al, al_pc, al_rc, al_pst, al_rst, w64, List.length_append, List.length_map, Nat.mul_one, beq_self_eq_true, Lim.cs, PathC.cs, RuleC.cs, gdP, gdR, gdN, bl]))
      exact Round_lit (k + 1) ⟨Le_lit (by simp [-List.getD_eq_getElem?_getD, LeL, lk, hst, bl, bts, out_nil]), by omega, by omega⟩
  · have f5 : Fact (decide ((k : Int) < (wordsC c).length) = false) := by simp only [Fact, Bool.not_eq_true', Bool.not_eq_false', decide_eq_true_eq, decide_eq_false_iff_not]; omega
    obtain rfl : k = (wordsC c).length := by omega
    simp (disch := omega) only [↓Ed, Eu, ↓reduceIte, reduceCtorEq, Nat.reduceAdd, Nat.reduceEqDiff, Nat.reduceLT, Nat.reduceLeDiff, Int.reduceToNat, Int.reduceEq, Int.reduceLT, Int.reduceLE, Int.toNat_natCast, al_so, al_al, al_pc, al_rc, al_pst, al_rst, w64, List.length_append, List.length_map, Nat.mul_one, beq_self_eq_true, Lim.cs, PathC.cs, RuleC.cs, gdP, gdR, gdN, bl]
    repeat' ((first | (refine' CallO_det (t_String d _ _ (.inr trivial)) (lk_sub1 ?_) ?_; rotate_right 2; (focus ((repeat (first | exact lk_hd _ _ _ | (refine lk_tl ?_ ?_; (focus (first | assumption | (simp only [*, not_false_eq_true]; done)))))); done))) | refine NewB_intro0 (fun b => ?_) | (refine NewB_intro (fun b hb => ?_); simp only [ln_cons2, ln_nil, and_true] at hb) | (with_reducible apply And.intro; (focus (first | omega | (simp only [Fact, Bool.not_eq_true', Bool.not_eq_false', decide_eq_true_eq, decide_eq_false_iff_not] at *; omega)))) | ((first | refine gW_sp ?_ | refine condW_sp ?_ | refine pickW_sp ?_); (try refine Sp_n ?_); (first | refine Sp_t (by assumption) ?_ | refine Sp_f (by assumption) ?_ | refine Sp_split (fun h => ?_) (fun h => ?_)) <;> (first | have h' := Fact_lt h | have h' := Fact_nlt h | have h' := Fact_le h | have h' := Fact_nle h | skip) <;> (try (exfalso; omega))) | refine TreeW_intro (by rfl) ?_ | refine TreeW_all ?_ | refine upQ_intro ?_ | refine Two_intro ?_ ?_ | (refine leK_lit ?_; (simp [-List.getD_eq_getElem?_getD, LeL, lk, *]; done)) | (refine leK_dd ?_; (simp [-List.getD_eq_getElem?_getD, LeS, LeL, lk, *]; done)) | (simp only [Fact, Bool.not_eq_true', Bool.not_eq_false', decide_eq_true_eq, decide_eq_false_iff_not] at *; refine leK_dd ?_; (simp [-List.getD_eq_getElem?_getD, LeS, LeL, lk, *]; done)) | (show (_ : Nat) ≤ _; omega)) <;> (try simp (disch := omega) only [*, ↓Ed, Eu, ↓reduceIte, reduceCtorEq, Nat.reduceAdd, Nat.reduceEqDiff, Nat.reduceLT, Nat.reduceLeDiff, Int.reduceToNat, Int.reduceEq, Int.reduceLT, Int.reduceLE, Int.toNat_natCast, al_so, al_al, al_pc, al_rc, al_pst, al_rst, w64, List.length_append, List.length_map, Nat.mul_one, beq_self_eq_true, Lim.cs, PathC.cs, RuleC.cs, gdP, gdR, gdN, bl]))
    rw [List.take_length]
end Go.Proofs.YtbjmcmgekcmbpabDoor

/- chapter 21: which paths the rules let through; light configurations -/
namespace Go.Proofs.YtbjmcmgekcmbpabDoor
set_option linter.all false
open Go.RowKit
set_option maxRecDepth 100000
noncomputable def letsP (l : List RuleC) (t : List UInt8) : Bool := match l.find? (fun r => matchP r.pt t) with
  | some r => r.al
  | none => l.all fun r => !r.al
theorem split_at {α : Type} [Inhabited α] {l : List α} {k : Nat} (hk : k < l.length) : l = l.take k ++ l.getD k default :: l.drop (k + 1) := by
  have e : l.getD k default = l[k] := by rw [List.getD, List.getElem?_eq_getElem hk]; rfl
  rw [e, ← List.drop_eq_getElem_cons hk, List.take_append_drop]
theorem all_take {α : Type} [Inhabited α] {l : List α} {p : α → Bool} {k : Nat} (hk : k < l.length) : (l.take (k + 1)).all p = ((l.take k).all p && p (l.getD k default)) := by
  rw [List.take_succ_eq_append_getElem hk, List.all_append]
  simp [List.getD, List.getElem?_eq_getElem hk]
theorem all_bad {α : Type} [Inhabited α] {l : List α} {p : α → Bool} {k : Nat} (hk : k < l.length) (h : p (l.getD k default) = false) : l.all p = false := by
  rw [List.all_eq_false]
  refine ⟨l.getD k default, ?_, by rw [h]; decide⟩
  rw [List.getD, List.getElem?_eq_getElem hk]; exact List.getElem_mem hk
theorem lets_hit {l : List RuleC} {t : List UInt8} {k : Nat} (hk : k < l.length) (h0 : (l.take k).all (fun r => !matchP r.pt t) = true) (hm : matchP (l.getD k default).pt t = true) : letsP l t = (l.getD k default).al := by
  have : l.find? (fun r => matchP r.pt t) = some (l.getD k default) := by
    rw [List.find?_eq_some_iff_append]
    refine ⟨hm, l.take k, l.drop (k + 1), split_at hk, fun a ha => ?_⟩
    exact List.all_eq_true.1 h0 a ha
  unfold letsP
  rw [this]
theorem lets_end {l : List RuleC} {t : List UInt8} (h0 : l.all (fun r => !matchP r.pt t) = true) : letsP l t = l.all fun r => !r.al := by
  have : l.find? (fun r => matchP r.pt t) = none := by
    rw [List.find?_eq_none]
    intro x hx
    have := List.all_eq_true.1 h0 x hx
    simpa using this
  unfold letsP
  rw [this]
theorem lets_nil (t : List UInt8) : letsP [] t = true := rfl
theorem lets_cons (r : RuleC) (l : List RuleC) (t : List UInt8) : letsP (r :: l) t = if matchP r.pt t = true then r.al else (letsP l t && (!r.al || (l.find? (fun r => matchP r.pt t)).isSome)) := by
  unfold letsP
  rw [List.find?_cons]
  cases h : matchP r.pt t with
  | true => simp
  | false =>
    simp only [Bool.false_eq_true, if_false]
    cases l.find? (fun r => matchP r.pt t) with
    | some x => simp
    | none => simp only [List.all_cons, Option.isSome_none, Bool.or_false]; exact Bool.and_comm _ _
theorem lets_star (al : Bool) (l : List RuleC) (t : List UInt8) : letsP (⟨al, [42]⟩ :: l) t = al := by
  have : matchP [42] t = true := by
    unfold matchP
    rw [mt_st, mayG_iff.2 ⟨by simp, by simp, fun j hj => ?_⟩]; · rfl
    have : j = 0 := by simpa using hj
    subst this; decide
  rw [lets_cons, if_pos this]
theorem lets_none {l : List RuleC} {p : List UInt8} {c : Int} (h : mayP p c = true) : letsP (⟨false, [47, 47, 47]⟩ :: l) (textP p c) = letsP l (textP p c) := by
  have hn := (mayP_t h).2.2.2
  have hx : matchP [47, 47, 47] (textP p c) = false := by
    unfold matchP
    unfold textP
    rw [if_pos h]
    cases p with
    | nil => exact absurd rfl hn.1
    | cons x p =>
      have h0 := hn.2.2 0 (by simp)
      simp only [okAt, List.getD_cons_zero, ne_eq, not_true_eq_false, false_and, or_false] at h0
      have hx : x ≠ 47 := by rintro rfl; simp at h0
      simp only [List.cons_append]
      rw [mt_char (by decide)]
      simp [Ne.symm hx]
  rw [lets_cons, if_neg (by simp [hx])]
  simp
def lightC (c : Conf) : Bool := decide (c.a.length ≤ 60 ∧ c.b.length ≤ 60 ∧ c.ps.length ≤ 10 ∧ c.rs.length ≤ 40) && (c.ps.all fun p => decide (p.ap.length ≤ 60 ∧ p.bp.length ≤ 60)) && (c.rs.all fun r => decide (r.pt.length ≤ 60))
theorem light_t {c : Conf} (h : lightC c = true) : c.a.length ≤ 60 ∧ c.b.length ≤ 60 ∧ c.ps.length ≤ 10 ∧ c.rs.length ≤ 40 ∧ (∀ i, (c.ps.getD i default).ap.length ≤ 60 ∧ (c.ps.getD i default).bp.length ≤ 60) ∧ (∀ i, (c.rs.getD i default).pt.length ≤ 60) := by
  simp only [lightC, Bool.and_eq_true, decide_eq_true_eq] at h
  obtain ⟨⟨⟨h1, h2, h3, h4⟩, h5⟩, h6⟩ := h
  refine ⟨h1, h2, h3, h4, fun i => ?_, fun i => ?_⟩
  · by_cases hi : i < c.ps.length
    · have := List.all_eq_true.1 h5 (c.ps.getD i default) (by rw [List.getD, List.getElem?_eq_getElem hi]; exact List.getElem_mem hi)
      exact of_decide_eq_true this
    · rw [List.getD, List.getElem?_eq_none (by omega)]; exact ⟨Nat.zero_le _, Nat.zero_le _⟩
  · by_cases hi : i < c.rs.length
    · have := List.all_eq_true.1 h6 (c.rs.getD i default) (by rw [List.getD, List.getElem?_eq_getElem hi]; exact List.getElem_mem hi)
      exact of_decide_eq_true this
    · rw [List.getD, List.getElem?_eq_none (by omega)]; exact Nat.zero_le _
end Go.Proofs.YtbjmcmgekcmbpabDoor

/- chapter 20: the document's Match; GlobTells -/
namespace Go.Proofs.YtbjmcmgekcmbpabDoor
set_option linter.all false
open Go.RowKit
set_option maxRecDepth 100000
theorem tn1 (k : Nat) : ((k : Int) - 1).toNat = k - 1 := by omega
theorem tk1 (k : Nat) : ((k : Int) + 1).toNat = k + 1 := by omega
theorem flat1 (n : Nat) : (List.replicate n [AV.bool false]).flatten = (List.replicate n false).map AV.bool := by simp
end Go.Proofs.YtbjmcmgekcmbpabDoor

/- chapter 21: light configurations; which paths the rules let through -/
namespace Go.Proofs.YtbjmcmgekcmbpabDoor
set_option linter.all false
open Go.RowKit
set_option maxRecDepth 100000
theorem p_LightConf (c : Conf) (p1 r1 : AV) (h1 : p1.alias = .sl none 5 (pths c.ps)) (h2 : r1.alias = .sl none 2 (rls c.rs)) (l1 : c.ps.length ≤ maxLen) (l2 : c.rs.length ≤ maxLen) :
    CP Tryd.prog 6 [.agg (cfX c p1 r1)] (.bool (lightC c)) := by
  have hm : maxLen = 9223372036854775807 := rfl
  refine ok_ligkeep_LightConf _ _ (by simp) ?_
  by_cases H : c.a.length ≤ 60 ∧ c.b.length ≤ 60 ∧ c.ps.length ≤ 10 ∧ c.rs.length ≤ 40
  rotate_left
  · have e : lightC c = false := by simp only [lightC, decide_eq_false H, Bool.false_and]
    rw [e]
    have F : Fact (¬ (c.a.length ≤ 60 ∧ c.b.length ≤ 60 ∧ c.ps.length ≤ 10 ∧ c.rs.length ≤ 40)) := H
    clear H e
    simp only [c_ligkeep_LightConf, ↓Ed, Eu, ↓reduceIte, reduceCtorEq, Nat.reduceAdd, Nat.reduceEqDiff, Nat.reduceLT, Nat.reduceLeDiff, Int.reduceToNat, Int.reduceEq, Int.reduceLT, Int.reduceLE, Int.toNat_natCast, al_so, al_al, al_pc, al_rc, al_pst, al_rst, w64, List.length_append, List.length_map, Nat.mul_one, beq_self_eq_true, Lim.cs, PathC.cs, RuleC.cs, gdP, gdR]
    repeat' ((first | refine NewB_intro0 (fun b => ?_) | (refine NewB_intro (fun b hb => ?_); simp only [ln_cons2, ln_nil, and_true] at hb) | (with_reducible apply And.intro; (focus (first | omega | (simp only [Fact, Bool.not_eq_true', Bool.not_eq_false', decide_eq_true_eq, decide_eq_false_iff_not] at *; omega)))) | ((first | refine gW_sp ?_ | refine condW_sp ?_ | refine pickW_sp ?_); (try refine Sp_n ?_); (first | refine Sp_t (by assumption) ?_ | refine Sp_f (by assumption) ?_ | refine Sp_split (fun h => ?_) (fun h => ?_)) <;> (first | have h' := Fact_lt h | have h' := Fact_nlt h | have h' := Fact_le h | have h' := Fact_nle h | skip) <;> (try (exfalso; omega))) | refine TreeW_intro (by rfl) ?_ | refine TreeW_all ?_ | refine upQ_intro ?_ | refine Two_intro ?_ ?_ | (refine leK_lit ?_; (simp [-List.getD_eq_getElem?_getD, LeL, lk, *]; done)) | (refine leK_dd ?_; (simp [-List.getD_eq_getElem?_getD, LeS, LeL, lk, *]; done)) | (simp only [Fact, Bool.not_eq_true', Bool.not_eq_false', decide_eq_true_eq, decide_eq_false_iff_not] at *; refine leK_dd ?_; (simp [-List.getD_eq_getElem?_getD, LeS, LeL, lk, *]; done)) | (show (_ : Nat) ≤ _; omega)) <;> (try simp (disch := omega) only [*, ↓Ed, Eu, ↓reduceIte, reduceCtorEq, Nat.reduceAdd, Nat.reduceEqDiff, Nat.reduceLT, Nat.reduceLeDiff, Int.reduceToNat, Int.reduceEq, Int.reduceLT, Int.reduceLE, Int.toNat_natCast, al_so, al_al, al_pc, al_rc, al_pst, al_rst, w64, List.length_append, List.length_map, Nat.mul_one, beq_self_eq_true, Lim.cs, PathC.cs, RuleC.cs, gdP, gdR]))
    all_goals (exfalso; simp only [Fact, Bool.not_eq_true', Bool.not_eq_false', decide_eq_true_eq, decide_eq_false_iff_not] at *; omega)
  have e : lightC c = ((c.ps.all fun p => decide (p.ap.length ≤ 60 ∧ p.bp.length ≤ 60)) && (c.rs.all fun r => decide (r.pt.length ≤ 60))) := by simp only [lightC, decide_eq_true H, Bool.true_and]
  rw [e]
  have f1 : Fact (decide (60 < (c.a.length : Int)) = false) := by simp only [Fact, Bool.not_eq_true', Bool.not_eq_false', decide_eq_true_eq, decide_eq_false_iff_not]; omega
  have f2 : Fact (decide (60 < (c.b.length : Int)) = false) := by simp only [Fact, Bool.not_eq_true', Bool.not_eq_false', decide_eq_true_eq, decide_eq_false_iff_not]; omega
  have f3 : Fact (decide (10 < (c.ps.length : Int)) = false) := by simp only [Fact, Bool.not_eq_true', Bool.not_eq_false', decide_eq_true_eq, decide_eq_false_iff_not]; omega
  have f4 : Fact (decide (40 < (c.rs.length : Int)) = false) := by simp only [Fact, Bool.not_eq_true', Bool.not_eq_false', decide_eq_true_eq, decide_eq_false_iff_not]; omega
  clear H e
  simp only [c_ligkeep_LightConf, ↓Ed, Eu, ↓reduceIte, reduceCtorEq, Nat.reduceAdd, Nat.reduceEqDiff, Nat.reduceLT, Nat.reduceLeDiff, Int.reduceToNat, Int.reduceEq, Int.reduceLT, Int.reduceLE, Int.toNat_natCast, al_so, al_al, al_pc, al_rc, al_pst, al_rst, w64, List.length_append, List.length_map, Nat.mul_one, beq_self_eq_true, Lim.cs, PathC.cs, RuleC.cs, gdP, gdR]
  repeat' ((first | refine NewB_intro0 (fun b => ?_) | (refine NewB_intro (fun b hb => ?_); simp only [ln_cons2, ln_nil, and_true] at hb) | (with_reducible apply And.intro; (focus (first | omega | (simp only [Fact, Bool.not_eq_true', Bool.not_eq_false', decide_eq_true_eq, decide_eq_false_iff_not] at *; omega)))) | ((first | refine gW_sp ?_ | refine condW_sp ?_ | refine pickW_sp ?_); (try refine Sp_n ?_); (first | refine Sp_t (by assumption) ?_ | refine Sp_f (by assumption) ?_ | refine Sp_split (fun h => ?_) (fun h => ?_)) <;> (first | have h' := Fact_lt h | have h' := Fact_nlt h | have h' := Fact_le h | have h' := Fact_nle h | skip) <;> (try (exfalso; omega))) | refine TreeW_intro (by rfl) ?_ | refine TreeW_all ?_ | refine upQ_intro ?_ | refine Two_intro ?_ ?_ | (refine leK_lit ?_; (simp [-List.getD_eq_getElem?_getD, LeL, lk, *]; done)) | (refine leK_dd ?_; (simp [-List.getD_eq_getElem?_getD, LeS, LeL, lk, *]; done)) | (simp only [Fact, Bool.not_eq_true', Bool.not_eq_false', decide_eq_true_eq, decide_eq_false_iff_not] at *; refine leK_dd ?_; (simp [-List.getD_eq_getElem?_getD, LeS, LeL, lk, *]; done)) | (show (_ : Nat) ≤ _; omega)) <;> (try simp (disch := omega) only [*, ↓Ed, Eu, ↓reduceIte, reduceCtorEq, Nat.reduceAdd, Nat.reduceEqDiff, Nat.reduceLT, Nat.reduceLeDiff, Int.reduceToNat, Int.reduceEq, Int.reduceLT, Int.reduceLE, Int.toNat_natCast, al_so, al_al, al_pc, al_rc, al_pst, al_rst, w64, List.length_append, List.length_map, Nat.mul_one, beq_self_eq_true, Lim.cs, PathC.cs, RuleC.cs, gdP, gdR]))
  refine wpx_loop (fun k : Nat => ⟨lk [(1, .ptr b 0), (3, .int .i64 (k : Int))], lk [(b, [.str c.a, .str c.b, .int .i64 c.la.g, .int .i64 c.la.b, .int .i64 c.la.n, .int .i64 c.lb.g, .int .i64 c.lb.b, .int .i64 c.lb.n, p1.store, r1.store, .int .i64 c.iv])]⟩) (fun k => k ≤ c.ps.length ∧ Fact (((c.ps.take k).all fun p => decide (p.ap.length ≤ 60 ∧ p.bp.length ≤ 60)) = true)) (fun k => c.ps.length - k) 0 ⟨by omega, by simp [Fact]⟩ (Le_lit (by simp [LeL, lk])) ?_
  rintro k ⟨g1, g2⟩
  by_cases hk : k < c.ps.length
  · have f5 : Fact (decide ((k : Int) < c.ps.length) = true) := by simp only [Fact, Bool.not_eq_true', Bool.not_eq_false', decide_eq_true_eq, decide_eq_false_iff_not]; omega
    by_cases he : (c.ps.getD k default).ap.length ≤ 60 ∧ (c.ps.getD k default).bp.length ≤ 60
    · have f6 : Fact (decide (60 < ((c.ps.getD k default).ap.length : Int)) = false) := by simp only [Fact, Bool.not_eq_true', Bool.not_eq_false', decide_eq_true_eq, decide_eq_false_iff_not]; omega
      have f7 : Fact (decide (60 < ((c.ps.getD k default).bp.length : Int)) = false) := by simp only [Fact, Bool.not_eq_true', Bool.not_eq_false', decide_eq_true_eq, decide_eq_false_iff_not]; omega
      have hn : ((c.ps.take (k + 1)).all fun p => decide (p.ap.length ≤ 60 ∧ p.bp.length ≤ 60)) = true := by rw [all_take hk, show _ = true from g2, decide_eq_true he]; rfl
      have hN : Fact (((c.ps.take (k + 1)).all fun p => decide (p.ap.length ≤ 60 ∧ p.bp.length ≤ 60)) = true) := hn
      clear he hn
      simp (disch := omega) only [h1, h2, ↓Ed, Eu, ↓reduceIte, reduceCtorEq, Nat.reduceAdd, Nat.reduceEqDiff, Nat.reduceLT, Nat.reduceLeDiff, Int.reduceToNat, Int.reduceEq, Int.reduceLT, Int.reduceLE, Int.toNat_natCast, al_so, al_al, al_pc, al_rc, al_pst, al_rst, w64, List.length_append, List.length_map, Nat.mul_one, beq_self_eq_true, Lim.cs, PathC.cs, RuleC.cs, gdP, gdR]
      repeat' ((first | refine NewB_intro0 (fun b => ?_) | (refine NewB_intro (fun b hb => ?_); simp only [ln_cons2, ln_nil, and_true] at hb) | (with_reducible apply And.intro; (focus (first | omega | (simp only [Fact, Bool.not_eq_true', Bool.not_eq_false', decide_eq_true_eq, decide_eq_false_iff_not] at *; omega)))) | ((first | refine gW_sp ?_ | refine condW_sp ?_ | refine pickW_sp ?_); (try refine Sp_n ?_); (first | refine Sp_t (by assumption) ?_ | refine Sp_f (by assumption) ?_ | refine Sp_split (fun h => ?_) (fun h => ?_)) <;> (first | have h' := Fact_lt h | have h' := Fact_nlt h | have h' := Fact_le h | have h' := Fact_nle h | skip) <;> (try (exfalso; omega))) | refine TreeW_intro (by rfl) ?_ | refine TreeW_all ?_ | refine upQ_intro ?_ | refine Two_intro ?_ ?_ | (refine leK_lit ?_; (simp [-List.getD_eq_getElem?_getD, LeL, lk, *]; done)) | (refine leK_dd ?_; (simp [-List.getD_eq_getElem?_getD, LeS, LeL, lk, *]; done)) | (simp only [Fact, Bool.not_eq_true', Bool.not_eq_false', decide_eq_true_eq, decide_eq_false_iff_not] at *; refine leK_dd ?_; (simp [-List.getD_eq_getElem?_getD, LeS, LeL, lk, *]; done)) | (show (_ : Nat) ≤ _; omega)) <;> (try simp (disch := omega) only [*, ↓Ed, Eu, ↓reduceIte, reduceCtorEq, Nat.reduceAdd, Nat.reduceEqDiff, Nat.reduceLT, Nat.reduceLeDiff, Int.reduceToNat, Int.reduceEq, Int.reduceLT, Int.reduceLE, Int.toNat_natCast, al_so, al_al, al_pc, al_rc, al_pst, al_rst, w64, List.length_append, List.length_map, Nat.mul_one, beq_self_eq_true, Lim.cs, PathC.cs, RuleC.cs, gdP, gdR]))
      exact Round_lit (k + 1) ⟨Le_lit (by simp [LeL, lk]), ⟨by omega, hN⟩, by omega⟩
    · rw [all_bad (l := c.ps) hk (decide_eq_false he), Bool.false_and]
      have F : Fact (¬ ((c.ps.getD k default).ap.length ≤ 60 ∧ (c.ps.getD k default).bp.length ≤ 60)) := he
      clear he g2
      simp (disch := omega) only [h1, h2, ↓Ed, Eu, ↓reduceIte, reduceCtorEq, Nat.reduceAdd, Nat.reduceEqDiff, Nat.reduceLT, Nat.reduceLeDiff, Int.reduceToNat, Int.reduceEq, Int.reduceLT, Int.reduceLE, Int.toNat_natCast, al_so, al_al, al_pc, al_rc, al_pst, al_rst, w64, List.length_append, List.length_map, Nat.mul_one, beq_self_eq_true, Lim.cs, PathC.cs, RuleC.cs, gdP, gdR]
      repeat' ((first | refine NewB_intro0 (fun b => ?_) | (refine NewB_intro (fun b hb => ?_); simp only [ln_cons2, ln_nil, and_true] at hb) | (with_reducible apply And.intro; (focus (first | omega | (simp only [Fact, Bool.not_eq_true', Bool.not_eq_false', decide_eq_true_eq, decide_eq_false_iff_not] at *; omega)))) | ((first | refine gW_sp ?_ | refine condW_sp ?_ | refine pickW_sp ?_); (try refine Sp_n ?_); (first | refine Sp_t (by assumption) ?_ | refine Sp_f (by assumption) ?_ | refine Sp_split (fun h => ?_) (fun h => ?_)) <;> (first | have h' := Fact_lt h | have h' := Fact_nlt h | have h' := Fact_le h | have h' := Fact_nle h | skip) <;> (try (exfalso; omega))) | refine TreeW_intro (by rfl) ?_ | refine TreeW_all ?_ | refine upQ_intro ?_ | refine Two_intro ?_ ?_ | (refine leK_lit ?_; (simp [-List.getD_eq_getElem?_getD, LeL, lk, *]; done)) | (refine leK_dd ?_; (simp [-List.getD_eq_getElem?_getD, LeS, LeL, lk, *]; done)) | (simp only [Fact, Bool.not_eq_true', Bool.not_eq_false', decide_eq_true_eq, decide_eq_false_iff_not] at *; refine leK_dd ?_; (simp [-List.getD_eq_getElem?_getD, LeS, LeL, lk, *]; done)) | (show (_ : Nat) ≤ _; omega)) <;> (try simp (disch := omega) only [*, ↓Ed, Eu, ↓reduceIte, reduceCtorEq, Nat.reduceAdd, Nat.reduceEqDiff, Nat.reduceLT, Nat.reduceLeDiff, Int.reduceToNat, Int.reduceEq, Int.reduceLT, Int.reduceLE, Int.toNat_natCast, al_so, al_al, al_pc, al_rc, al_pst, al_rst, w64, List.length_append, List.length_map, Nat.mul_one, beq_self_eq_true, Lim.cs, PathC.cs, RuleC.cs, gdP, gdR]))
      all_goals (exfalso; simp only [Fact, Bool.not_eq_true', Bool.not_eq_false', decide_eq_true_eq, decide_eq_false_iff_not] at *; omega)
  have f5 : Fact (decide ((k : Int) < c.ps.length) = false) := by simp only [Fact, Bool.not_eq_true', Bool.not_eq_false', decide_eq_true_eq, decide_eq_false_iff_not]; omega
  have hA : (c.ps.all fun p => decide (p.ap.length ≤ 60 ∧ p.bp.length ≤ 60)) = true := by simp only [Fact] at g2; rw [List.take_of_length_le (by omega)] at g2; exact g2
  rw [hA, Bool.true_and]
  clear hA g2
  simp (disch := omega) only [h1, h2, ↓Ed, Eu, ↓reduceIte, reduceCtorEq, Nat.reduceAdd, Nat.reduceEqDiff, Nat.reduceLT, Nat.reduceLeDiff, Int.reduceToNat, Int.reduceEq, Int.reduceLT, Int.reduceLE, Int.toNat_natCast, al_so, al_al, al_pc, al_rc, al_pst, al_rst, w64, List.length_append, List.length_map, Nat.mul_one, beq_self_eq_true, Lim.cs, PathC.cs, RuleC.cs, gdP, gdR]
  repeat' ((first | refine NewB_intro0 (fun b => ?_) | (refine NewB_intro (fun b hb => ?_); simp only [ln_cons2, ln_nil, and_true] at hb) | (with_reducible apply And.intro; (focus (first | omega | (simp only [Fact, Bool.not_eq_true', Bool.not_eq_false', decide_eq_true_eq, decide_eq_false_iff_not] at *; omega)))) | ((first | refine gW_sp ?_ | refine condW_sp ?_ | refine pickW_sp ?_); (try refine Sp_n ?_); (first | refine Sp_t (by assumption) ?_ | refine Sp_f (by assumption) ?_ | refine Sp_split (fun h => ?_) (fun h => ?_)) <;> (first | have h' := Fact_lt h | have h' := Fact_nlt h | have h' := Fact_le h | have h' := Fact_nle h | skip) <;> (try (exfalso; omega))) | refine TreeW_intro (by rfl) ?_ | refine TreeW_all ?_ | refine upQ_intro ?_ | refine Two_intro ?_ ?_ | (refine leK_lit ?_; (simp [-List.getD_eq_getElem?_getD, LeL, lk, *]; done)) | (refine leK_dd ?_; (simp [-List.getD_eq_getElem?_getD, LeS, LeL, lk, *]; done)) | (simp only [Fact, Bool.not_eq_true', Bool.not_eq_false', decide_eq_true_eq, decide_eq_false_iff_not] at *; refine leK_dd ?_; (simp [-List.getD_eq_getElem?_getD, LeS, LeL, lk, *]; done)) | (show (_ : Nat) ≤ _; omega)) <;> (try simp (disch := omega) only [*, ↓Ed, Eu, ↓reduceIte, reduceCtorEq, Nat.reduceAdd, Nat.reduceEqDiff, Nat.reduceLT, Nat.reduceLeDiff, Int.reduceToNat, Int.reduceEq, Int.reduceLT, Int.reduceLE, Int.toNat_natCast, al_so, al_al, al_pc, al_rc, al_pst, al_rst, w64, List.length_append, List.length_map, Nat.mul_one, beq_self_eq_true, Lim.cs, PathC.cs, RuleC.cs, gdP, gdR]))
  clear f5 g1 hk
  refine wpx_loop (fun k : Nat => ⟨lk [(1, .ptr b 0), (4, .int .i64 (k : Int))], lk [(b, [.str c.a, .str c.b, .int .i64 c.la.g, .int .i64 c.la.b, .int .i64 c.la.n, .int .i64 c.lb.g, .int .i64 c.lb.b, .int .i64 c.lb.n, p1.store, r1.store, .int .i64 c.iv])]⟩) (fun k => k ≤ c.rs.length ∧ Fact (((c.rs.take k).all fun r => decide (r.pt.length ≤ 60)) = true)) (fun k => c.rs.length - k) 0 ⟨by omega, by simp [Fact]⟩ (Le_lit (by simp [LeL, lk])) ?_
  rintro k ⟨g1, g2⟩
  by_cases hk : k < c.rs.length
  · have f5 : Fact (decide ((k : Int) < c.rs.length) = true) := by simp only [Fact, Bool.not_eq_true', Bool.not_eq_false', decide_eq_true_eq, decide_eq_false_iff_not]; omega
    by_cases he : (c.rs.getD k default).pt.length ≤ 60
    · have f6 : Fact (decide (60 < ((c.rs.getD k default).pt.length : Int)) = false) := by simp only [Fact, Bool.not_eq_true', Bool.not_eq_false', decide_eq_true_eq, decide_eq_false_iff_not]; omega
      have hn : ((c.rs.take (k + 1)).all fun r => decide (r.pt.length ≤ 60)) = true := by rw [all_take hk, show _ = true from g2, decide_eq_true he]; rfl
      have hN : Fact (((c.rs.take (k + 1)).all fun r => decide (r.pt.length ≤ 60)) = true) := hn
      clear he hn
      simp (disch := omega) only [h1, h2, ↓Ed, Eu, ↓reduceIte, reduceCtorEq, Nat.reduceAdd, Nat.reduceEqDiff, Nat.reduceLT, Nat.reduceLeDiff, Int.reduceToNat, Int.reduceEq, Int.reduceLT, Int.reduceLE, Int.toNat_natCast, al_so, al_al, al_pc, al_rc, al_pst, al_rst, w64, List.length_append, List.length_map, Nat.mul_one, beq_self_eq_true, Lim.cs, PathC.cs, RuleC.cs, gdP, gdR]
      repeat' ((first | refine NewB_intro0 (fun b => ?_) | (refine NewB_intro (fun b hb => ?_); simp only [ln_cons2, ln_nil, and_true] at hb) | (with_reducible apply And.intro; (focus (first | omega | (simp only [Fact, Bool.not_eq_true', Bool.not_eq_false', decide_eq_true_eq, decide_eq_false_iff_not] at *; omega)))) | ((first | refine gW_sp ?_ | refine condW_sp ?_ | refine pickW_sp ?_); (try refine Sp_n ?_); (first | refine Sp_t (by assumption) ?_ | refine Sp_f (by assumption) ?_ | refine Sp_split (fun h => ?_) (fun h => ?_)) <;> (first | have h' := Fact_lt h | have h' := Fact_nlt h | have h' := Fact_le h | have h' := Fact_nle h | skip) <;> (try (exfalso; omega))) | refine TreeW_intro (by rfl) ?_ | refine TreeW_all ?_ | refine upQ_intro ?_ | refine Two_intro ?_ ?_ | (refine leK_lit ?_; (simp [-List.getD_eq_getElem?_getD, LeL, lk, *]; done)) | (refine leK_dd ?_; (simp [-List.getD_eq_getElem?_getD, LeS, LeL, lk, *]; done)) | (simp only [Fact, Bool.not_eq_true', Bool.not_eq_false', decide_eq_true_eq, decide_eq_false_iff_not] at *; refine leK_dd ?_; (simp [-List.getD_eq_getElem?_getD, LeS, LeL, lk, *]; done)) | (show (_ : Nat) ≤ _; omega)) <;> (try simp (disch := omega) only [*, ↓Ed, Eu, ↓reduceIte, reduceCtorEq, Nat.reduceAdd, Nat.reduceEqDiff, Nat.reduceLT, Nat.reduceLeDiff, Int.reduceToNat, Int.reduceEq, Int.reduceLT, Int.reduceLE, Int.toNat_natCast, al_so, al_al, al_pc, al_rc, al_pst, al_rst, w64, List.length_append, List.length_map, Nat.mul_one, beq_self_eq_true, Lim.cs, PathC.cs, RuleC.cs, gdP, gdR]))
      exact Round_lit (k + 1) ⟨Le_lit (by simp [LeL, lk]), ⟨by omega, hN⟩, by omega⟩
    · rw [all_bad (l := c.rs) hk (decide_eq_false he)]
      have f6 : Fact (decide (60 < ((c.rs.getD k default).pt.length : Int)) = true) := by simp only [Fact, Bool.not_eq_true', Bool.not_eq_false', decide_eq_true_eq, decide_eq_false_iff_not]; omega
      clear he g2
      simp (disch := omega) only [h1, h2, ↓Ed, Eu, ↓reduceIte, reduceCtorEq, Nat.reduceAdd, Nat.reduceEqDiff, Nat.reduceLT, Nat.reduceLeDiff, Int.reduceToNat, Int.reduceEq, Int.reduceLT, Int.reduceLE, Int.toNat_natCast, al_so, al_al, al_pc, al_rc, al_pst, al_rst, w64, List.length_append, List.length_map, Nat.mul_one, beq_self_eq_true, Lim.cs, PathC.cs, RuleC.cs, gdP, gdR]
      repeat' ((first | refine NewB_intro0 (fun b => ?_) | (refine NewB_intro (fun b hb => ?_); simp only [ln_cons2, ln_nil, and_true] at hb) | (with_reducible apply And.intro; (focus (first | omega | (simp only [Fact, Bool.not_eq_true', Bool.not_eq_false', decide_eq_true_eq, decide_eq_false_iff_not] at *; omega)))) | ((first | refine gW_sp ?_ | refine condW_sp ?_ | refine pickW_sp ?_); (try refine Sp_n ?_); (first | refine Sp_t (by assumption) ?_ | refine Sp_f (by assumption) ?_ | refine Sp_split (fun h => ?_) (fun h => ?_)) <;> (first | have h' := Fact_lt h | have h' := Fact_nlt h | have h' := Fact_le h | have h' := Fact_nle h | skip) <;> (try (exfalso; omega))) | refine TreeW_intro (by rfl) ?_ | refine TreeW_all ?_ | refine upQ_intro ?_ | refine Two_intro ?_ ?_ | (refine leK_lit ?_; (simp [-List.getD_eq_getElem?_getD, LeL, lk, *]; done)) | (refine leK_dd ?_; (simp [-List.getD_eq_getElem?_getD, LeS, LeL, lk, *]; done)) | (simp only [Fact, Bool.not_eq_true', Bool.not_eq_false', decide_eq_true_eq, decide_eq_false_iff_not] at *; refine leK_dd ?_; (simp [-List.getD_eq_getElem?_getD, LeS, LeL, lk, *]; done)) | (show (_ : Nat) ≤ _; omega)) <;> (try simp (disch := omega) only [*, ↓Ed, Eu, ↓reduceIte, reduceCtorEq, Nat.reduceAdd, Nat.reduceEqDiff, Nat.reduceLT, Nat.reduceLeDiff, Int.reduceToNat, Int.reduceEq, Int.reduceLT, Int.reduceLE, Int.toNat_natCast, al_so, al_al, al_pc, al_rc, al_pst, al_rst, w64, List.length_append, List.length_map, Nat.mul_one, beq_self_eq_true, Lim.cs, PathC.cs, RuleC.cs, gdP, gdR]))
  have f5 : Fact (decide ((k : Int) < c.rs.length) = false) := by simp only [Fact, Bool.not_eq_true', Bool.not_eq_false', decide_eq_true_eq, decide_eq_false_iff_not]; omega
  have hA : (c.rs.all fun r => decide (r.pt.length ≤ 60)) = true := by simp only [Fact] at g2; rw [List.take_of_length_le (by omega)] at g2; exact g2
  rw [hA]
  clear hA g2
  simp (disch := omega) only [h1, h2, ↓Ed, Eu, ↓reduceIte, reduceCtorEq, Nat.reduceAdd, Nat.reduceEqDiff, Nat.reduceLT, Nat.reduceLeDiff, Int.reduceToNat, Int.reduceEq, Int.reduceLT, Int.reduceLE, Int.toNat_natCast, al_so, al_al, al_pc, al_rc, al_pst, al_rst, w64, List.length_append, List.length_map, Nat.mul_one, beq_self_eq_true, Lim.cs, PathC.cs, RuleC.cs, gdP, gdR]
  repeat' ((first | refine NewB_intro0 (fun b => ?_) | (refine NewB_intro (fun b hb => ?_); simp only [ln_cons2, ln_nil, and_true] at hb) | (with_reducible apply And.intro; (focus (first | omega | (simp only [Fact, Bool.not_eq_true', Bool.not_eq_false', decide_eq_true_eq, decide_eq_false_iff_not] at *; omega)))) | ((first | refine gW_sp ?_ | refine condW_sp ?_ | refine pickW_sp ?_); (try refine Sp_n ?_); (first | refine Sp_t (by assumption) ?_ | refine Sp_f (by assumption) ?_ | refine Sp_split (fun h => ?_) (fun h => ?_)) <;> (first | have h' := Fact_lt h | have h' := Fact_nlt h | have h' := Fact_le h | have h' := Fact_nle h | skip) <;> (try (exfalso; omega))) | refine TreeW_intro (by rfl) ?_ | refine TreeW_all ?_ | refine upQ_intro ?_ | refine Two_intro ?_ ?_ | (refine leK_lit ?_; (simp [-List.getD_eq_getElem?_getD, LeL, lk, *]; done)) | (refine leK_dd ?_; (simp [-List.getD_eq_getElem?_getD, LeS, LeL, lk, *]; done)) | (simp only [Fact, Bool.not_eq_true', Bool.not_eq_false', decide_eq_true_eq, decide_eq_false_iff_not] at *; refine leK_dd ?_; (simp [-List.getD_eq_getElem?_getD, LeS, LeL, lk, *]; done)) | (show (_ : Nat) ≤ _; omega)) <;> (try simp (disch := omega) only [*, ↓Ed, Eu, ↓reduceIte, reduceCtorEq, Nat.reduceAdd, Nat.reduceEqDiff, Nat.reduceLT, Nat.reduceLeDiff, Int.reduceToNat, Int.reduceEq, Int.reduceLT, Int.reduceLE, Int.toNat_natCast, al_so, al_al, al_pc, al_rc, al_pst, al_rst, w64, List.length_append, List.length_map, Nat.mul_one, beq_self_eq_true, Lim.cs, PathC.cs, RuleC.cs, gdP, gdR]))
theorem tr_t (p : List UInt8) (c : Int) : (textP p c).length ≤ 1000000 := by
  unfold textP
  split
  · rename_i h
    have h1 := mayP_t h
    have h2 := dig_len3 ⟨h1.2.1, h1.2.2.1⟩
    simp only [List.length_append, List.length_cons, List.length_nil]; omega
  · simp
end Go.Proofs.YtbjmcmgekcmbpabDoor

/- chapter 21: the texts that ConfNotes builds -/
namespace Go.Proofs.YtbjmcmgekcmbpabDoor
set_option linter.all false
open Go.RowKit
set_option maxRecDepth 100000
def noteT (L : List (List UInt8)) (note : List UInt8) (k : Nat) : List UInt8 := endL ((L.take k).flatMap fun t => [noted t note, []])
def badT (L : List (List UInt8)) (n k : Nat) : List UInt8 := if n < k then endL (L.take n ++ nothingL :: (L.take k).drop n) else endL (L.take k)
theorem endL_app (a b : List (List UInt8)) : endL (a ++ b) = endL a ++ endL b := by simp [endL]
theorem take_one {L : List (List UInt8)} {k : Nat} (h : k < L.length) : L.take (k + 1) = L.take k ++ [L.getD k []] := by rw [List.take_succ]; simp [h]
theorem note_step {L : List (List UInt8)} {note : List UInt8} {k : Nat} (h : k < L.length) : noteT L note (k + 1) = noteT L note k ++ ([32, 9] ++ L.getD k [] ++ [32, 32, 35] ++ note ++ [10, 10]) := by
  unfold noteT
  rw [take_one h, List.flatMap_append, endL_app]
  simp [endL, noted]
theorem bad_step {L : List (List UInt8)} {n k : Nat} (h : k < L.length) : badT L n (k + 1) = (if n = k then badT L n k ++ (nothingL ++ [10]) else badT L n k) ++ (L.getD k [] ++ [10]) := by
  unfold badT
  by_cases e : n = k
  · subst e
    rw [if_pos (by omega), if_pos rfl, if_neg (by omega), take_one h, List.drop_append_of_le_length (by simp; omega), List.drop_of_length_le (by simp; omega)]
    rw [endL_app]
    simp [endL]
  · rw [if_neg e]
    by_cases e2 : n < k
    · rw [if_pos (by omega), if_pos e2, take_one h, List.drop_append_of_le_length (by simp; omega), ← List.cons_append, ← List.append_assoc, endL_app]
      simp [endL]
    · rw [if_neg (by omega), if_neg e2, take_one h, endL_app]
      simp [endL]
theorem note_len {L : List (List UInt8)} {note : List UInt8} (hn : note.length ≤ 20) (h : ∀ t ∈ L, t.length ≤ 95) : ∀ k, k ≤ L.length → (noteT L note k).length ≤ k * 130
  | 0, _ => by simp [noteT, endL]
  | k + 1, hk => by
    have := note_len hn h k (by omega)
    have h2 := h (L.getD k []) (by rw [List.getD, List.getElem?_eq_getElem (by omega)]; exact List.getElem_mem _)
    rw [note_step (by omega)]
    simp only [List.length_append, List.length_cons, List.length_nil]
    omega
theorem bad_len {L : List (List UInt8)} {n : Nat} (h : ∀ t ∈ L, t.length ≤ 95) : ∀ k, k ≤ L.length → (badT L n k).length ≤ k * 110
  | 0, _ => by simp [badT, endL]
  | k + 1, hk => by
    have := bad_len (n := n) h k (by omega)
    have h2 := h (L.getD k []) (by rw [List.getD, List.getElem?_eq_getElem (by omega)]; exact List.getElem_mem _)
    rw [bad_step (by omega)]
    split <;> (simp only [List.length_append, List.length_cons, List.length_nil]; omega)
theorem note_end {c : Conf} {note : List UInt8} : noteT (linesC c) note (linesC c).length = endL (notedC c note) := by
  unfold noteT notedC; rw [List.take_length]
theorem bad_end {L : List (List UInt8)} {n : Nat} : badT L n L.length = if n < L.length then endL (L.take n ++ nothingL :: L.drop n) else endL L := by
  unfold badT; rw [List.take_length]
theorem linesC_95 {c : Conf} (h : confQ c) : ∀ t ∈ linesC c, t.length ≤ 95 := fun t ht => by
  simp only [linesC, List.mem_map] at ht
  obtain ⟨w, hw, rfl⟩ := ht
  exact ln_conf h w hw
theorem linesC_len {c : Conf} (h : confQ c) : (linesC c).length ≤ 41 := by
  have := wordsC_len h
  simpa [linesC] using this
end Go.Proofs.YtbjmcmgekcmbpabDoor
