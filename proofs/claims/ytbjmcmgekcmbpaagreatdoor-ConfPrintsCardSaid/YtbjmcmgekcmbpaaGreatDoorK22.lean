import Derived.Test.YtbjmcmgekcmbpaaGreatDoorK20
import Derived.Test.YtbjmcmgekcmbpaaGreatDoorK21
import Derived.Test.YtbjmcmgekcmbpaaGreatDoorK12
import Derived.Test.YtbjmcmgekcmbpaaGreatDoorK19
import Derived.Test.YtbjmcmgekcmbpaaGreatDoorK8
import Derived.Carry
import Derived.ChangeSame
import Derived.Deep.Slices
import Derived.Below
import Derived.Test.YtbjmcmgekcmbpaaGreatDoorRows
import Derived.Test.YtbjmcmgekcmbpaaGreatDoorK11
import Derived.Handed
import Derived.HandedShaped
import Derived.LaidMore
import Derived.MakeChecks
import Derived.Stop.LaidErr
/- chapter 21: the document's Print -/
namespace Go.Proofs.YtbjmcmgekcmbpaaGreatDoor
set_option linter.all false
open Go.RowKit
set_option maxRecDepth 100000
theorem ln_two (a b : List UInt8) : lnOf [a, b] = a ++ 32 :: b := by simp [lnOf, join2, join1]
theorem ln_four (a b c d : List UInt8) : lnOf [a, b, c, d] = a ++ 32 :: (b ++ 32 :: (c ++ 32 :: d)) := by simp [lnOf, join2, join1]
theorem ln_nine (a b c d e f g h i : List UInt8) : lnOf [a, b, c, d, e, f, g, h, i] = a ++ 32 :: (b ++ 32 :: (c ++ 32 :: (d ++ 32 :: (e ++ 32 :: (f ++ 32 :: (g ++ 32 :: (h ++ 32 :: i))))))) := by simp [lnOf, join2, join1]
theorem p_printed (s n : List UInt8) (l : Lim) (h : limQ l) (hs : s.length ≤ 1000) (hn : n.length ≤ 1000000) : CP Tryz.prog 20 [.str s, .str n, .agg l.cs] (.str (lnOf (chainW s n l) ++ [10])) := by
  obtain ⟨g, b', c⟩ := l
  obtain ⟨h1, h2, h3⟩ := h
  simp only at h1 h2 h3
  have i1 := itoa_len10 (n := g) (by omega)
  have i2 := itoa_len10 (n := b') (by omega)
  have i3 := itoa_len10 (n := c) (by omega)
  have d1 := p_DigI g (by omega)
  have d2 := p_DigI b' (by omega)
  have d3 := p_DigI c (by omega)
  refine ok_ligref20_printed _ _ (by simp) ?_
  simp only [c_ligref20_printed, ↓Ed, Eu, ↓reduceIte, reduceCtorEq, Nat.reduceAdd, Nat.reduceEqDiff, Nat.reduceLT, Nat.reduceLeDiff, Int.reduceToNat, Int.reduceEq, Int.reduceLT, Int.reduceLE, Int.toNat_natCast, al_so, al_al, al_pc, al_rc, al_pst, al_rst, w64, List.length_append, List.length_map, Nat.mul_one, beq_self_eq_true, Lim.cs, PathC.cs, RuleC.cs, gdP, gdR]
  repeat' ((first | refine CallW_intro (d1) ?_ | refine CallW_intro (d2) ?_ | refine CallW_intro (d3) ?_ | refine CallO_pure (d1) ?_ | refine CallO_pure (d2) ?_ | refine CallO_pure (d3) ?_ | refine NewB_intro0 (fun b => ?_) | (refine NewB_intro (fun b hb => ?_); simp only [ln_cons2, ln_nil, and_true] at hb) | (with_reducible apply And.intro; (focus (first | omega | (simp only [Fact, Bool.not_eq_true', Bool.not_eq_false', decide_eq_true_eq, decide_eq_false_iff_not] at *; omega)))) | ((first | refine gW_sp ?_ | refine condW_sp ?_ | refine pickW_sp ?_); (try refine Sp_n ?_); (first | refine Sp_t (by assumption) ?_ | refine Sp_f (by assumption) ?_ | refine Sp_split (fun h => ?_) (fun h => ?_)) <;> (first | have h' := Fact_lt h | have h' := Fact_nlt h | have h' := Fact_le h | have h' := Fact_nle h | skip) <;> (try (exfalso; omega))) | refine TreeW_intro (by rfl) ?_ | refine TreeW_all ?_ | refine upQ_intro ?_ | refine Two_intro ?_ ?_ | (refine leK_lit ?_; (simp [-List.getD_eq_getElem?_getD, LeL, lk, *]; done)) | (refine leK_dd ?_; (simp [-List.getD_eq_getElem?_getD, LeS, LeL, lk, *]; done)) | (simp only [Fact, Bool.not_eq_true', Bool.not_eq_false', decide_eq_true_eq, decide_eq_false_iff_not] at *; refine leK_dd ?_; (simp [-List.getD_eq_getElem?_getD, LeS, LeL, lk, *]; done)) | (show (_ : Nat) ≤ _; omega)) <;> (try simp (disch := omega) only [*, ↓Ed, Eu, ↓reduceIte, reduceCtorEq, Nat.reduceAdd, Nat.reduceEqDiff, Nat.reduceLT, Nat.reduceLeDiff, Int.reduceToNat, Int.reduceEq, Int.reduceLT, Int.reduceLE, Int.toNat_natCast, al_so, al_al, al_pc, al_rc, al_pst, al_rst, w64, List.length_append, List.length_map, Nat.mul_one, beq_self_eq_true, Lim.cs, PathC.cs, RuleC.cs, gdP, gdR]))
  all_goals (simp [chainW, ln_nine])
theorem outC_app (l : List (List (List UInt8))) (w : List (List UInt8)) : outC (l ++ [w]) = outC l ++ (lnOf w ++ [10]) := by simp [outC, endL]
theorem outC_two (w v : List (List UInt8)) : outC [w, v] = (lnOf w ++ [10]) ++ (lnOf v ++ [10]) := by simp [outC, endL]
theorem outC_le {l : List (List (List UInt8))} (h : ∀ w ∈ l, (lnOf w).length ≤ 95) : (outC l).length ≤ l.length * 96 := by
  have := out_len h l.length (Nat.le_refl _)
  rwa [List.take_length] at this
theorem path_ln (p : PathC) (s : List UInt8) : s ++ ([112, 97, 116, 104, 32] ++ textP p.ap p.ac ++ [32] ++ textP p.bp p.bc ++ [32] ++ (if p.o = true then cOrd else cUno) ++ [10]) = s ++ (lnOf (pathWs p) ++ [10]) := by
  simp [pathWs, ln_four]
theorem rule_ln (r : RuleC) (s : List UInt8) : s ++ ((if r.al = true then [97, 108, 108, 111, 119, 32] else [100, 101, 110, 121, 32]) ++ r.pt ++ [10]) = s ++ (lnOf (ruleWs r) ++ [10]) := by
  cases h : r.al <;> simp [ruleWs, ln_two, h]
theorem iv_ln (n : Int) (s : List UInt8) : s ++ [105, 110, 116, 101, 114, 118, 97, 108, 32] ++ Lib.itoa n ++ [10] = s ++ (lnOf (ivWs n) ++ [10]) := by
  simp [ivWs, ln_two]
set_option maxHeartbeats 4000000 in
theorem p_sPrint (c : Conf) (p1 r1 : AV) (h1 : p1.alias = .sl none 5 (pths c.ps)) (h2 : r1.alias = .sl none 2 (rls c.rs)) (l1 : c.ps.length ≤ maxLen) (l2 : c.rs.length ≤ maxLen)
    (sa : c.a.length ≤ 1000000) (sb : c.b.length ≤ 1000000) (sp : ∀ i, (c.ps.getD i default).ap.length ≤ 1000000 ∧ (c.ps.getD i default).bp.length ≤ 1000000) (sr : ∀ i, (c.rs.getD i default).pt.length ≤ 1000000) :
    CP Tryz.prog 7 [.agg (cfX c p1 r1)] (.tup [.str (printC c).1, .int .i64 (printC c).2]) := by
  have hm : maxLen = 9223372036854775807 := rfl
  have hM := p_sMay c p1.store r1.store (by rw [al_so, h1]) (by rw [al_so, h2]) l1 l2 sa sb sp sr
  refine ok_ligref20_Print _ _ (by simp) ?_
  by_cases hq : confQ c
  rotate_left
  · rw [confMay_f hq] at hM
    have e : printC c = ([], 1) := by unfold printC; rw [confMay_f hq, if_neg (by decide)]
    rw [e]
    clear e hq sp sr
    simp only [c_ligref20_Print, ↓Ed, Eu, ↓reduceIte, reduceCtorEq, Nat.reduceAdd, Nat.reduceEqDiff, Nat.reduceLT, Nat.reduceLeDiff, Int.reduceToNat, Int.reduceEq, Int.reduceLT, Int.reduceLE, Int.toNat_natCast, al_so, al_al, al_pc, al_rc, al_pst, al_rst, w64, List.length_append, List.length_map, Nat.mul_one, beq_self_eq_true, Lim.cs, PathC.cs, RuleC.cs, gdP, gdR]
    repeat' ((first | refine CallO_pure (hM) ?_ | refine NewB_intro0 (fun b => ?_) | (refine NewB_intro (fun b hb => ?_); simp only [ln_cons2, ln_nil, and_true] at hb) | (with_reducible apply And.intro; (focus (first | omega | (simp only [Fact, Bool.not_eq_true', Bool.not_eq_false', decide_eq_true_eq, decide_eq_false_iff_not] at *; omega)))) | ((first | refine gW_sp ?_ | refine condW_sp ?_ | refine pickW_sp ?_); (try refine Sp_n ?_); (first | refine Sp_t (by assumption) ?_ | refine Sp_f (by assumption) ?_ | refine Sp_split (fun h => ?_) (fun h => ?_)) <;> (first | have h' := Fact_lt h | have h' := Fact_nlt h | have h' := Fact_le h | have h' := Fact_nle h | skip) <;> (try (exfalso; omega))) | refine TreeW_intro (by rfl) ?_ | refine TreeW_all ?_ | refine upQ_intro ?_ | refine Two_intro ?_ ?_ | (refine leK_lit ?_; (simp [-List.getD_eq_getElem?_getD, LeL, lk, *]; done)) | (refine leK_dd ?_; (simp [-List.getD_eq_getElem?_getD, LeS, LeL, lk, *]; done)) | (simp only [Fact, Bool.not_eq_true', Bool.not_eq_false', decide_eq_true_eq, decide_eq_false_iff_not] at *; refine leK_dd ?_; (simp [-List.getD_eq_getElem?_getD, LeS, LeL, lk, *]; done)) | (show (_ : Nat) ≤ _; omega)) <;> (try simp (disch := omega) only [*, ↓Ed, Eu, ↓reduceIte, reduceCtorEq, Nat.reduceAdd, Nat.reduceEqDiff, Nat.reduceLT, Nat.reduceLeDiff, Int.reduceToNat, Int.reduceEq, Int.reduceLT, Int.reduceLE, Int.toNat_natCast, al_so, al_al, al_pc, al_rc, al_pst, al_rst, w64, List.length_append, List.length_map, Nat.mul_one, beq_self_eq_true, Lim.cs, PathC.cs, RuleC.cs, gdP, gdR]))
  rw [confMay_t hq] at hM
  have e : printC c = (textC c, 0) := by unfold printC; rw [confMay_t hq, if_pos rfl]
  rw [e]
  have hL1 := p_printed [97] c.a c.la hq.2.2.2.1 (by simp) sa
  have hL2 := p_printed [98] c.b c.lb hq.2.2.2.2.1 (by simp) sb
  have hIv := p_DigI c.iv (by have := hq.2.2.2.2.2.1; unfold ivQ at this; omega)
  have hT1 := fun i => p_EndText (c.ps.getD i default).ap (c.ps.getD i default).ac (sp i).1
  have hT2 := fun i => p_EndText (c.ps.getD i default).bp (c.ps.getD i default).bc (sp i).2
  have n1 := hq.2.2.2.2.2.2.1
  have n2 := hq.2.2.2.2.2.2.2.1
  have x1 := ln_chain (s := [97]) rfl hq.1 hq.2.2.2.1
  have x2 := ln_chain (s := [98]) rfl hq.2.1 hq.2.2.2.2.1
  have i10 := itoa_len10 (n := c.iv) (by have := hq.2.2.2.2.2.1; unfold ivQ at this; omega)
  have t24 : ∀ p : PathC, p ∈ c.ps → (textP p.ap p.ac).length ≤ 24 ∧ (textP p.bp p.bc).length ≤ 24 ∧ (lnOf (pathWs p)).length ≤ 95 := fun p hp => by
    obtain ⟨i, hi, rfl⟩ := mem_getD hp
    have hpm := (hq.2.2.2.2.2.2.2.2.1 i hi).1
    obtain ⟨g1, g2⟩ := pathMay_iff.1 hpm
    exact ⟨text_len24 g1, text_len24 g2, ln_path hpm⟩
  have t40 : ∀ r : RuleC, r ∈ c.rs → r.pt.length ≤ 40 ∧ (lnOf (ruleWs r)).length ≤ 95 := fun r hr => by
    obtain ⟨i, hi, rfl⟩ := mem_getD hr
    have := hq.2.2.2.2.2.2.2.2.2 i hi
    exact ⟨(mayG_iff.1 this).2.1, ln_rule this⟩
  have hlen1 : ∀ k, (outC ([chainW [97] c.a c.la, chainW [98] c.b c.lb] ++ (c.ps.take k).map pathWs)).length ≤ 1000 := fun k => by
    refine Nat.le_trans (outC_le fun w hw => ?_) ?_
    · simp only [List.mem_append, List.mem_cons, List.not_mem_nil, or_false, List.mem_map] at hw
      rcases hw with (rfl | rfl) | ⟨p, hp, rfl⟩
      · exact x1
      · exact x2
      · exact (t24 p (List.mem_of_mem_take hp)).2.2
    · simp; omega
  have hlen2 : ∀ k, (outC ([chainW [97] c.a c.la, chainW [98] c.b c.lb] ++ c.ps.map pathWs ++ (c.rs.take k).map ruleWs)).length ≤ 5000 := fun k => by
    refine Nat.le_trans (outC_le fun w hw => ?_) ?_
    · simp only [List.mem_append, List.mem_cons, List.not_mem_nil, or_false, List.mem_map] at hw
      rcases hw with ((rfl | rfl) | ⟨p, hp, rfl⟩) | ⟨r, hr, rfl⟩
      · exact x1
      · exact x2
      · exact (t24 p hp).2.2
      · exact (t40 r (List.mem_of_mem_take hr)).2
    · simp; omega
  clear e hq sp sr sa sb
  simp only [c_ligref20_Print, ↓Ed, Eu, ↓reduceIte, reduceCtorEq, Nat.reduceAdd, Nat.reduceEqDiff, Nat.reduceLT, Nat.reduceLeDiff, Int.reduceToNat, Int.reduceEq, Int.reduceLT, Int.reduceLE, Int.toNat_natCast, al_so, al_al, al_pc, al_rc, al_pst, al_rst, w64, List.length_append, List.length_map, Nat.mul_one, beq_self_eq_true, Lim.cs, PathC.cs, RuleC.cs, gdP, gdR]
  repeat' ((first | refine CallO_pure (hM) ?_ | refine CallW_intro (hL1) ?_ | refine CallW_intro (hL2) ?_ | refine NewB_intro0 (fun b => ?_) | (refine NewB_intro (fun b hb => ?_); simp only [ln_cons2, ln_nil, and_true] at hb) | (with_reducible apply And.intro; (focus (first | omega | (simp only [Fact, Bool.not_eq_true', Bool.not_eq_false', decide_eq_true_eq, decide_eq_false_iff_not] at *; omega)))) | ((first | refine gW_sp ?_ | refine condW_sp ?_ | refine pickW_sp ?_); (try refine Sp_n ?_); (first | refine Sp_t (by assumption) ?_ | refine Sp_f (by assumption) ?_ | refine Sp_split (fun h => ?_) (fun h => ?_)) <;> (first | have h' := Fact_lt h | have h' := Fact_nlt h | have h' := Fact_le h | have h' := Fact_nle h | skip) <;> (try (exfalso; omega))) | refine TreeW_intro (by rfl) ?_ | refine TreeW_all ?_ | refine upQ_intro ?_ | refine Two_intro ?_ ?_ | (refine leK_lit ?_; (simp [-List.getD_eq_getElem?_getD, LeL, lk, *]; done)) | (refine leK_dd ?_; (simp [-List.getD_eq_getElem?_getD, LeS, LeL, lk, *]; done)) | (simp only [Fact, Bool.not_eq_true', Bool.not_eq_false', decide_eq_true_eq, decide_eq_false_iff_not] at *; refine leK_dd ?_; (simp [-List.getD_eq_getElem?_getD, LeS, LeL, lk, *]; done)) | (show (_ : Nat) ≤ _; omega)) <;> (try simp (disch := omega) only [*, ↓Ed, Eu, ↓reduceIte, reduceCtorEq, Nat.reduceAdd, Nat.reduceEqDiff, Nat.reduceLT, Nat.reduceLeDiff, Int.reduceToNat, Int.reduceEq, Int.reduceLT, Int.reduceLE, Int.toNat_natCast, al_so, al_al, al_pc, al_rc, al_pst, al_rst, w64, List.length_append, List.length_map, Nat.mul_one, beq_self_eq_true, Lim.cs, PathC.cs, RuleC.cs, gdP, gdR]))
  rw [← outC_two]
  refine wpx_loop (fun k : Nat => ⟨lk [(1, .ptr b 0), (4, .str (outC ([chainW [97] c.a c.la, chainW [98] c.b c.lb] ++ (c.ps.take k).map pathWs))), (5, .int .i64 (k : Int))], lk [(b, [.str c.a, .str c.b, .int .i64 c.la.g, .int .i64 c.la.b, .int .i64 c.la.n, .int .i64 c.lb.g, .int .i64 c.lb.b, .int .i64 c.lb.n, p1.store, r1.store, .int .i64 c.iv])]⟩) (fun k => k ≤ c.ps.length) (fun k => c.ps.length - k) 0 (by omega) (Le_lit (by simp [LeL, lk])) ?_
  intro k g1
  by_cases hk : k < c.ps.length
  · have f5 : Fact (decide ((k : Int) < c.ps.length) = true) := by simp only [Fact, Bool.not_eq_true', Bool.not_eq_false', decide_eq_true_eq, decide_eq_false_iff_not]; omega
    have q1 := hT1 k
    have q2 := hT2 k
    obtain ⟨y1, y2, _⟩ := t24 (c.ps.getD k default) (by rw [List.getD, List.getElem?_eq_getElem hk]; exact List.getElem_mem _)
    have y3 := hlen1 k
    have hst : outC ([chainW [97] c.a c.la, chainW [98] c.b c.lb] ++ (c.ps.take (k + 1)).map pathWs) = outC ([chainW [97] c.a c.la, chainW [98] c.b c.lb] ++ (c.ps.take k).map pathWs) ++ (lnOf (pathWs (c.ps.getD k default)) ++ [10]) := by
      rw [take_add pathWs hk, ← List.append_assoc, outC_app]
    rw [← path_ln] at hst
    cases ho : (c.ps.getD k default).o
    all_goals rw [ho] at hst
    all_goals simp only [Bool.false_eq_true, if_false, if_true] at hst
    all_goals clear hlen1 hlen2 hT1 hT2
    all_goals simp (disch := omega) only [ho, h1, h2, ↓Ed, Eu, ↓reduceIte, reduceCtorEq, Nat.reduceAdd, Nat.reduceEqDiff, Nat.reduceLT, Nat.reduceLeDiff, Int.reduceToNat, Int.reduceEq, Int.reduceLT, Int.reduceLE, Int.toNat_natCast, al_so, al_al, al_pc, al_rc, al_pst, al_rst, w64, List.length_append, List.length_map, Nat.mul_one, beq_self_eq_true, Lim.cs, PathC.cs, RuleC.cs, gdP, gdR]
    all_goals repeat' ((first | refine CallW_intro (q1) ?_ | refine CallW_intro (q2) ?_ | refine NewB_intro0 (fun b => ?_) | (refine NewB_intro (fun b hb => ?_); simp only [ln_cons2, ln_nil, and_true] at hb) | (with_reducible apply And.intro; (focus (first | omega | (simp only [Fact, Bool.not_eq_true', Bool.not_eq_false', decide_eq_true_eq, decide_eq_false_iff_not] at *; omega)))) | ((first | refine gW_sp ?_ | refine condW_sp ?_ | refine pickW_sp ?_); (try refine Sp_n ?_); (first | refine Sp_t (by assumption) ?_ | refine Sp_f (by assumption) ?_ | refine Sp_split (fun h => ?_) (fun h => ?_)) <;> (first | have h' := Fact_lt h | have h' := Fact_nlt h | have h' := Fact_le h | have h' := Fact_nle h | skip) <;> (try (exfalso; omega))) | refine TreeW_intro (by rfl) ?_ | refine TreeW_all ?_ | refine upQ_intro ?_ | refine Two_intro ?_ ?_ | (refine leK_lit ?_; (simp [-List.getD_eq_getElem?_getD, LeL, lk, *]; done)) | (refine leK_dd ?_; (simp [-List.getD_eq_getElem?_getD, LeS, LeL, lk, *]; done)) | (simp only [Fact, Bool.not_eq_true', Bool.not_eq_false', decide_eq_true_eq, decide_eq_false_iff_not] at *; refine leK_dd ?_; (simp [-List.getD_eq_getElem?_getD, LeS, LeL, lk, *]; done)) | (show (_ : Nat) ≤ _; omega)) <;> (try simp (disch := omega) only [*, ↓Ed, Eu, ↓reduceIte, reduceCtorEq, Nat.reduceAdd, Nat.reduceEqDiff, Nat.reduceLT, Nat.reduceLeDiff, Int.reduceToNat, Int.reduceEq, Int.reduceLT, Int.reduceLE, Int.toNat_natCast, al_so, al_al, al_pc, al_rc, al_pst, al_rst, w64, List.length_append, List.length_map, Nat.mul_one, beq_self_eq_true, Lim.cs, PathC.cs, RuleC.cs, gdP, gdR]))
    all_goals exact Round_lit (k + 1) ⟨Le_lit (by simp only [hst]; simp [-List.getD_eq_getElem?_getD, LeL, lk]), by omega, by omega⟩
  have f5 : Fact (decide ((k : Int) < c.ps.length) = false) := by simp only [Fact, Bool.not_eq_true', Bool.not_eq_false', decide_eq_true_eq, decide_eq_false_iff_not]; omega
  rw [List.take_of_length_le (by omega)]
  simp (disch := omega) only [h1, h2, ↓Ed, Eu, ↓reduceIte, reduceCtorEq, Nat.reduceAdd, Nat.reduceEqDiff, Nat.reduceLT, Nat.reduceLeDiff, Int.reduceToNat, Int.reduceEq, Int.reduceLT, Int.reduceLE, Int.toNat_natCast, al_so, al_al, al_pc, al_rc, al_pst, al_rst, w64, List.length_append, List.length_map, Nat.mul_one, beq_self_eq_true, Lim.cs, PathC.cs, RuleC.cs, gdP, gdR]
  repeat' ((first | refine NewB_intro0 (fun b => ?_) | (refine NewB_intro (fun b hb => ?_); simp only [ln_cons2, ln_nil, and_true] at hb) | (with_reducible apply And.intro; (focus (first | omega | (simp only [Fact, Bool.not_eq_true', Bool.not_eq_false', decide_eq_true_eq, decide_eq_false_iff_not] at *; omega)))) | ((first | refine gW_sp ?_ | refine condW_sp ?_ | refine pickW_sp ?_); (try refine Sp_n ?_); (first | refine Sp_t (by assumption) ?_ | refine Sp_f (by assumption) ?_ | refine Sp_split (fun h => ?_) (fun h => ?_)) <;> (first | have h' := Fact_lt h | have h' := Fact_nlt h | have h' := Fact_le h | have h' := Fact_nle h | skip) <;> (try (exfalso; omega))) | refine TreeW_intro (by rfl) ?_ | refine TreeW_all ?_ | refine upQ_intro ?_ | refine Two_intro ?_ ?_ | (refine leK_lit ?_; (simp [-List.getD_eq_getElem?_getD, LeL, lk, *]; done)) | (refine leK_dd ?_; (simp [-List.getD_eq_getElem?_getD, LeS, LeL, lk, *]; done)) | (simp only [Fact, Bool.not_eq_true', Bool.not_eq_false', decide_eq_true_eq, decide_eq_false_iff_not] at *; refine leK_dd ?_; (simp [-List.getD_eq_getElem?_getD, LeS, LeL, lk, *]; done)) | (show (_ : Nat) ≤ _; omega)) <;> (try simp (disch := omega) only [*, ↓Ed, Eu, ↓reduceIte, reduceCtorEq, Nat.reduceAdd, Nat.reduceEqDiff, Nat.reduceLT, Nat.reduceLeDiff, Int.reduceToNat, Int.reduceEq, Int.reduceLT, Int.reduceLE, Int.toNat_natCast, al_so, al_al, al_pc, al_rc, al_pst, al_rst, w64, List.length_append, List.length_map, Nat.mul_one, beq_self_eq_true, Lim.cs, PathC.cs, RuleC.cs, gdP, gdR]))
  clear f5 g1 hk
  refine wpx_loop (fun k : Nat => ⟨lk [(1, .ptr b 0), (4, .str (outC ([chainW [97] c.a c.la, chainW [98] c.b c.lb] ++ c.ps.map pathWs ++ (c.rs.take k).map ruleWs))), (7, .int .i64 (k : Int))], lk [(b, [.str c.a, .str c.b, .int .i64 c.la.g, .int .i64 c.la.b, .int .i64 c.la.n, .int .i64 c.lb.g, .int .i64 c.lb.b, .int .i64 c.lb.n, p1.store, r1.store, .int .i64 c.iv])]⟩) (fun k => k ≤ c.rs.length) (fun k => c.rs.length - k) 0 (by omega) (Le_lit (by simp [LeL, lk])) ?_
  intro k g1
  by_cases hk : k < c.rs.length
  · have f5 : Fact (decide ((k : Int) < c.rs.length) = true) := by simp only [Fact, Bool.not_eq_true', Bool.not_eq_false', decide_eq_true_eq, decide_eq_false_iff_not]; omega
    obtain ⟨y1, _⟩ := t40 (c.rs.getD k default) (by rw [List.getD, List.getElem?_eq_getElem hk]; exact List.getElem_mem _)
    have y3 := hlen2 k
    have hst : outC ([chainW [97] c.a c.la, chainW [98] c.b c.lb] ++ c.ps.map pathWs ++ (c.rs.take (k + 1)).map ruleWs) = outC ([chainW [97] c.a c.la, chainW [98] c.b c.lb] ++ c.ps.map pathWs ++ (c.rs.take k).map ruleWs) ++ (lnOf (ruleWs (c.rs.getD k default)) ++ [10]) := by
      rw [take_add ruleWs hk, ← List.append_assoc, outC_app]
    rw [← rule_ln] at hst
    cases ho : (c.rs.getD k default).al
    all_goals rw [ho] at hst
    all_goals simp only [Bool.false_eq_true, if_false, if_true] at hst
    all_goals clear hlen1 hlen2 hT1 hT2
    all_goals simp (disch := omega) only [ho, h1, h2, ↓Ed, Eu, ↓reduceIte, reduceCtorEq, Nat.reduceAdd, Nat.reduceEqDiff, Nat.reduceLT, Nat.reduceLeDiff, Int.reduceToNat, Int.reduceEq, Int.reduceLT, Int.reduceLE, Int.toNat_natCast, al_so, al_al, al_pc, al_rc, al_pst, al_rst, w64, List.length_append, List.length_map, Nat.mul_one, beq_self_eq_true, Lim.cs, PathC.cs, RuleC.cs, gdP, gdR]
    all_goals repeat' ((first | refine NewB_intro0 (fun b => ?_) | (refine NewB_intro (fun b hb => ?_); simp only [ln_cons2, ln_nil, and_true] at hb) | (with_reducible apply And.intro; (focus (first | omega | (simp only [Fact, Bool.not_eq_true', Bool.not_eq_false', decide_eq_true_eq, decide_eq_false_iff_not] at *; omega)))) | ((first | refine gW_sp ?_ | refine condW_sp ?_ | refine pickW_sp ?_); (try refine Sp_n ?_); (first | refine Sp_t (by assumption) ?_ | refine Sp_f (by assumption) ?_ | refine Sp_split (fun h => ?_) (fun h => ?_)) <;> (first | have h' := Fact_lt h | have h' := Fact_nlt h | have h' := Fact_le h | have h' := Fact_nle h | skip) <;> (try (exfalso; omega))) | refine TreeW_intro (by rfl) ?_ | refine TreeW_all ?_ | refine upQ_intro ?_ | refine Two_intro ?_ ?_ | (refine leK_lit ?_; (simp [-List.getD_eq_getElem?_getD, LeL, lk, *]; done)) | (refine leK_dd ?_; (simp [-List.getD_eq_getElem?_getD, LeS, LeL, lk, *]; done)) | (simp only [Fact, Bool.not_eq_true', Bool.not_eq_false', decide_eq_true_eq, decide_eq_false_iff_not] at *; refine leK_dd ?_; (simp [-List.getD_eq_getElem?_getD, LeS, LeL, lk, *]; done)) | (show (_ : Nat) ≤ _; omega)) <;> (try simp (disch := omega) only [*, ↓Ed, Eu, ↓reduceIte, reduceCtorEq, Nat.reduceAdd, Nat.reduceEqDiff, Nat.reduceLT, Nat.reduceLeDiff, Int.reduceToNat, Int.reduceEq, Int.reduceLT, Int.reduceLE, Int.toNat_natCast, al_so, al_al, al_pc, al_rc, al_pst, al_rst, w64, List.length_append, List.length_map, Nat.mul_one, beq_self_eq_true, Lim.cs, PathC.cs, RuleC.cs, gdP, gdR]))
    all_goals exact Round_lit (k + 1) ⟨Le_lit (by simp only [hst]; simp [-List.getD_eq_getElem?_getD, LeL, lk]), by omega, by omega⟩
  have f5 : Fact (decide ((k : Int) < c.rs.length) = false) := by simp only [Fact, Bool.not_eq_true', Bool.not_eq_false', decide_eq_true_eq, decide_eq_false_iff_not]; omega
  have y3 := hlen2 k
  rw [List.take_of_length_le (by omega)] at y3 ⊢
  have hend : textC c = outC ([chainW [97] c.a c.la, chainW [98] c.b c.lb] ++ c.ps.map pathWs ++ c.rs.map ruleWs) ++ [105, 110, 116, 101, 114, 118, 97, 108, 32] ++ Lib.itoa c.iv ++ [10] := by
    rw [iv_ln, ← outC_app, wsC]; rfl
  rw [hend]
  clear hend hlen1 hlen2 hT1 hT2
  simp (disch := omega) only [h1, h2, ↓Ed, Eu, ↓reduceIte, reduceCtorEq, Nat.reduceAdd, Nat.reduceEqDiff, Nat.reduceLT, Nat.reduceLeDiff, Int.reduceToNat, Int.reduceEq, Int.reduceLT, Int.reduceLE, Int.toNat_natCast, al_so, al_al, al_pc, al_rc, al_pst, al_rst, w64, List.length_append, List.length_map, Nat.mul_one, beq_self_eq_true, Lim.cs, PathC.cs, RuleC.cs, gdP, gdR]
  repeat' ((first | refine CallO_pure (hIv) ?_ | refine NewB_intro0 (fun b => ?_) | (refine NewB_intro (fun b hb => ?_); simp only [ln_cons2, ln_nil, and_true] at hb) | (with_reducible apply And.intro; (focus (first | omega | (simp only [Fact, Bool.not_eq_true', Bool.not_eq_false', decide_eq_true_eq, decide_eq_false_iff_not] at *; omega)))) | ((first | refine gW_sp ?_ | refine condW_sp ?_ | refine pickW_sp ?_); (try refine Sp_n ?_); (first | refine Sp_t (by assumption) ?_ | refine Sp_f (by assumption) ?_ | refine Sp_split (fun h => ?_) (fun h => ?_)) <;> (first | have h' := Fact_lt h | have h' := Fact_nlt h | have h' := Fact_le h | have h' := Fact_nle h | skip) <;> (try (exfalso; omega))) | refine TreeW_intro (by rfl) ?_ | refine TreeW_all ?_ | refine upQ_intro ?_ | refine Two_intro ?_ ?_ | (refine leK_lit ?_; (simp [-List.getD_eq_getElem?_getD, LeL, lk, *]; done)) | (refine leK_dd ?_; (simp [-List.getD_eq_getElem?_getD, LeS, LeL, lk, *]; done)) | (simp only [Fact, Bool.not_eq_true', Bool.not_eq_false', decide_eq_true_eq, decide_eq_false_iff_not] at *; refine leK_dd ?_; (simp [-List.getD_eq_getElem?_getD, LeS, LeL, lk, *]; done)) | (show (_ : Nat) ≤ _; omega)) <;> (try simp (disch := omega) only [*, ↓Ed, Eu, ↓reduceIte, reduceCtorEq, Nat.reduceAdd, Nat.reduceEqDiff, Nat.reduceLT, Nat.reduceLeDiff, Int.reduceToNat, Int.reduceEq, Int.reduceLT, Int.reduceLE, Int.toNat_natCast, al_so, al_al, al_pc, al_rc, al_pst, al_rst, w64, List.length_append, List.length_map, Nat.mul_one, beq_self_eq_true, Lim.cs, PathC.cs, RuleC.cs, gdP, gdR]))
end Go.Proofs.YtbjmcmgekcmbpaaGreatDoor

/- chapter 21: ConfPrints -/
namespace Go.Proofs.YtbjmcmgekcmbpaaGreatDoor
set_option linter.all false
open Go.RowKit
set_option maxRecDepth 100000
abbrev sps (c : Conf) : AV := .sl none 5 (pths c.ps)
abbrev srs (c : Conf) : AV := .sl none 2 (rls c.rs)
abbrev Conf.cs (c : Conf) : List AV := cfX c (sps c) (srs c)
set_option maxHeartbeats 4000000 in
theorem p_ConfPrints (c d : Conf) (l1 : c.ps.length ≤ maxLen) (l2 : c.rs.length ≤ maxLen) (l3 : d.ps.length ≤ maxLen) (l4 : d.rs.length ≤ maxLen) : CP Tryz.prog 3 [.agg (cfX c (sps c) (srs c)), .agg (cfX d (sps d) (srs d))] (.bool true) := by
  have hm : maxLen = 9223372036854775807 := rfl
  have hL := p_LightConf c (sps c) (srs c) rfl rfl l1 l2
  have hL2 := p_LightConf d (sps d) (srs d) rfl rfl l3 l4
  refine ok_liglaw21_ConfPrints _ _ (by simp) ?_
  cases hl : lightC c with
  | false =>
    rw [hl] at hL
    clear hl hL2
    simp only [c_liglaw21_ConfPrints, ↓Ed, Eu, ↓reduceIte, reduceCtorEq, Nat.reduceAdd, Nat.reduceEqDiff, Nat.reduceLT, Nat.reduceLeDiff, Int.reduceToNat, Int.reduceEq, Int.reduceLT, Int.reduceLE, al_so, al_al, al_pc, al_rc, al_pst, al_rst, so_pst, so_rst, w64, List.length_append, List.length_map, Nat.mul_one, beq_self_eq_true, List.length_cons, List.length_nil, Nat.reduceMul]
    repeat' ((first | refine CallO_pure (p_cfirst) ?_ | refine CallO_pure (hL) ?_ | refine NewB_intro0 (fun b => ?_) | (refine NewB_intro (fun b hb => ?_); simp only [ln_cons2, ln_nil, and_true] at hb) | (with_reducible apply And.intro; (focus (first | omega | (simp only [Fact, Bool.not_eq_true', Bool.not_eq_false', decide_eq_true_eq, decide_eq_false_iff_not] at *; omega)))) | ((first | refine gW_sp ?_ | refine condW_sp ?_ | refine pickW_sp ?_); (try refine Sp_n ?_); (first | refine Sp_t (by assumption) ?_ | refine Sp_f (by assumption) ?_ | refine Sp_split (fun h => ?_) (fun h => ?_)) <;> (first | have h' := Fact_lt h | have h' := Fact_nlt h | have h' := Fact_le h | have h' := Fact_nle h | skip) <;> (try (exfalso; omega))) | refine TreeW_intro (by rfl) ?_ | refine TreeW_all ?_ | refine upQ_intro ?_ | refine Two_intro ?_ ?_ | (refine leK_lit ?_; (simp [-List.getD_eq_getElem?_getD, LeL, lk, *]; done)) | (refine leK_dd ?_; (simp [-List.getD_eq_getElem?_getD, LeS, LeL, lk, *]; done)) | (simp only [Fact, Bool.not_eq_true', Bool.not_eq_false', decide_eq_true_eq, decide_eq_false_iff_not] at *; refine leK_dd ?_; (simp [-List.getD_eq_getElem?_getD, LeS, LeL, lk, *]; done)) | (show (_ : Nat) ≤ _; omega)) <;> (try simp (disch := omega) only [*, ↓Ed, Eu, ↓reduceIte, reduceCtorEq, Nat.reduceAdd, Nat.reduceEqDiff, Nat.reduceLT, Nat.reduceLeDiff, Int.reduceToNat, Int.reduceEq, Int.reduceLT, Int.reduceLE, al_so, al_al, al_pc, al_rc, al_pst, al_rst, so_pst, so_rst, w64, List.length_append, List.length_map, Nat.mul_one, beq_self_eq_true, List.length_cons, List.length_nil, Nat.reduceMul]))
  | true =>
  rw [hl] at hL
  cases hl2 : lightC d with
  | false =>
    rw [hl2] at hL2
    clear hl hl2
    simp only [c_liglaw21_ConfPrints, ↓Ed, Eu, ↓reduceIte, reduceCtorEq, Nat.reduceAdd, Nat.reduceEqDiff, Nat.reduceLT, Nat.reduceLeDiff, Int.reduceToNat, Int.reduceEq, Int.reduceLT, Int.reduceLE, al_so, al_al, al_pc, al_rc, al_pst, al_rst, so_pst, so_rst, w64, List.length_append, List.length_map, Nat.mul_one, beq_self_eq_true, List.length_cons, List.length_nil, Nat.reduceMul]
    repeat' ((first | refine CallO_pure (p_cfirst) ?_ | refine CallO_pure (hL) ?_ | refine CallO_pure (hL2) ?_ | refine NewB_intro0 (fun b => ?_) | (refine NewB_intro (fun b hb => ?_); simp only [ln_cons2, ln_nil, and_true] at hb) | (with_reducible apply And.intro; (focus (first | omega | (simp only [Fact, Bool.not_eq_true', Bool.not_eq_false', decide_eq_true_eq, decide_eq_false_iff_not] at *; omega)))) | ((first | refine gW_sp ?_ | refine condW_sp ?_ | refine pickW_sp ?_); (try refine Sp_n ?_); (first | refine Sp_t (by assumption) ?_ | refine Sp_f (by assumption) ?_ | refine Sp_split (fun h => ?_) (fun h => ?_)) <;> (first | have h' := Fact_lt h | have h' := Fact_nlt h | have h' := Fact_le h | have h' := Fact_nle h | skip) <;> (try (exfalso; omega))) | refine TreeW_intro (by rfl) ?_ | refine TreeW_all ?_ | refine upQ_intro ?_ | refine Two_intro ?_ ?_ | (refine leK_lit ?_; (simp [-List.getD_eq_getElem?_getD, LeL, lk, *]; done)) | (refine leK_dd ?_; (simp [-List.getD_eq_getElem?_getD, LeS, LeL, lk, *]; done)) | (simp only [Fact, Bool.not_eq_true', Bool.not_eq_false', decide_eq_true_eq, decide_eq_false_iff_not] at *; refine leK_dd ?_; (simp [-List.getD_eq_getElem?_getD, LeS, LeL, lk, *]; done)) | (show (_ : Nat) ≤ _; omega)) <;> (try simp (disch := omega) only [*, ↓Ed, Eu, ↓reduceIte, reduceCtorEq, Nat.reduceAdd, Nat.reduceEqDiff, Nat.reduceLT, Nat.reduceLeDiff, Int.reduceToNat, Int.reduceEq, Int.reduceLT, Int.reduceLE, al_so, al_al, al_pc, al_rc, al_pst, al_rst, so_pst, so_rst, w64, List.length_append, List.length_map, Nat.mul_one, beq_self_eq_true, List.length_cons, List.length_nil, Nat.reduceMul]))
  | true =>
  rw [hl2] at hL2
  obtain ⟨b1, b2, b3, b4, b5, b6⟩ := light_t hl
  have hM := p_cMay c (sps c) (srs c) rfl rfl l1 l2 (by omega) (by omega) (fun i => ⟨Nat.le_trans (b5 i).1 (by omega), Nat.le_trans (b5 i).2 (by omega)⟩) (fun i => Nat.le_trans (b6 i) (by omega))
  have hM2 := p_sMay c (sps c) (srs c) rfl rfl l1 l2 (by omega) (by omega) (fun i => ⟨Nat.le_trans (b5 i).1 (by omega), Nat.le_trans (b5 i).2 (by omega)⟩) (fun i => Nat.le_trans (b6 i) (by omega))
  have hP := p_cPrint c (sps c) (srs c) rfl rfl l1 l2 (by omega) (by omega) (fun i => ⟨Nat.le_trans (b5 i).1 (by omega), Nat.le_trans (b5 i).2 (by omega)⟩) (fun i => Nat.le_trans (b6 i) (by omega))
  have hP2 := p_sPrint c (sps c) (srs c) rfl rfl l1 l2 (by omega) (by omega) (fun i => ⟨Nat.le_trans (b5 i).1 (by omega), Nat.le_trans (b5 i).2 (by omega)⟩) (fun i => Nat.le_trans (b6 i) (by omega))
  have hS := p_Same c d (sps c) (srs c) (sps d) (srs d) rfl rfl rfl rfl l1 l2 l3 l4
  have hS2 := p_SameConf c d (sps c) (srs c) (sps d) (srs d) rfl rfl rfl rfl l1 l2 l3 l4
  have hS3 := p_Same c c (sps c) (srs c) (sps c) (srs c) rfl rfl rfl rfl l1 l2 l1 l2
  rw [decide_eq_true rfl] at hS3
  generalize confMay c = x at hM hM2
  generalize decide (c = d) = y at hS hS2
  generalize printC c = z at hP hP2
  clear hl hl2 b1 b2 b5 b6
  cases x <;> cases y
  all_goals simp only [c_liglaw21_ConfPrints, ↓Ed, Eu, ↓reduceIte, reduceCtorEq, Nat.reduceAdd, Nat.reduceEqDiff, Nat.reduceLT, Nat.reduceLeDiff, Int.reduceToNat, Int.reduceEq, Int.reduceLT, Int.reduceLE, al_so, al_al, al_pc, al_rc, al_pst, al_rst, so_pst, so_rst, w64, List.length_append, List.length_map, Nat.mul_one, beq_self_eq_true, List.length_cons, List.length_nil, Nat.reduceMul]
  all_goals repeat' ((first | refine CallO_pure (p_cfirst) ?_ | refine CallO_pure (hL) ?_ | refine CallO_pure (hL2) ?_ | refine CallO_pure (hP) ?_ | refine CallO_pure (hP2) ?_ | refine CallO_pure (hM) ?_ | refine CallO_pure (hM2) ?_ | refine CallO_pure (hS) ?_ | refine CallO_pure (hS2) ?_ | refine CallO_pure (hS3) ?_ | refine CallW_intro (hM) ?_ | refine CallW_intro (hM2) ?_ | refine CallW_intro (hS) ?_ | refine CallW_intro (hS2) ?_ | refine CallW_intro (hS3) ?_ | refine NewB_intro0 (fun b => ?_) | (refine NewB_intro (fun b hb => ?_); simp only [ln_cons2, ln_nil, and_true] at hb) | (with_reducible apply And.intro; (focus (first | omega | (simp only [Fact, Bool.not_eq_true', Bool.not_eq_false', decide_eq_true_eq, decide_eq_false_iff_not] at *; omega)))) | ((first | refine gW_sp ?_ | refine condW_sp ?_ | refine pickW_sp ?_); (try refine Sp_n ?_); (first | refine Sp_t (by assumption) ?_ | refine Sp_f (by assumption) ?_ | refine Sp_split (fun h => ?_) (fun h => ?_)) <;> (first | have h' := Fact_lt h | have h' := Fact_nlt h | have h' := Fact_le h | have h' := Fact_nle h | skip) <;> (try (exfalso; omega))) | refine TreeW_intro (by rfl) ?_ | refine TreeW_all ?_ | refine upQ_intro ?_ | refine Two_intro ?_ ?_ | (refine leK_lit ?_; (simp [-List.getD_eq_getElem?_getD, LeL, lk, *]; done)) | (refine leK_dd ?_; (simp [-List.getD_eq_getElem?_getD, LeS, LeL, lk, *]; done)) | (simp only [Fact, Bool.not_eq_true', Bool.not_eq_false', decide_eq_true_eq, decide_eq_false_iff_not] at *; refine leK_dd ?_; (simp [-List.getD_eq_getElem?_getD, LeS, LeL, lk, *]; done)) | (show (_ : Nat) ≤ _; omega)) <;> (try simp (disch := omega) only [*, ↓Ed, Eu, ↓reduceIte, reduceCtorEq, Nat.reduceAdd, Nat.reduceEqDiff, Nat.reduceLT, Nat.reduceLeDiff, Int.reduceToNat, Int.reduceEq, Int.reduceLT, Int.reduceLE, al_so, al_al, al_pc, al_rc, al_pst, al_rst, so_pst, so_rst, w64, List.length_append, List.length_map, Nat.mul_one, beq_self_eq_true, List.length_cons, List.length_nil, Nat.reduceMul]))
end Go.Proofs.YtbjmcmgekcmbpaaGreatDoor

/- The abstract machine, part 15: arguments opened to abstract values; a law's row closed. -/
namespace Go.Proofs.YtbjmcmgekcmbpaaGreatDoor
set_option linter.all false
open Go.RowKit Go.WideShapes Go.ChangeShapes

/-! ### types whose values have no pointers of their own -/
def chainB (P : Program) : Nat → List Field → Option Nat
  | a, [] => some a
  | a, f :: fs => if f.offset = a then chainB P (a + P.cellsOf f.type) fs else none
def flatB (P : Program) : Nat → TypeId → Bool
  | 0, _ => false
  | n + 1, t => match P.underlying t with
    | some .bool => true
    | some (.int _) => true
    | some .string => true
    | some (.struct fs) => decide (chainB P 0 fs.toList = some (P.cellsOf t)) && fs.toList.all fun f => flatB P n f.type
    | some (.slice e) => decide (0 < P.cellsOf e) && flatB P n e
    | _ => false
/-- What is known of the cells of a value of a type. -/
def TVF (R : TypeId → List AV → Prop) : List Field → List AV → Prop
  | [], l => l = []
  | f :: fs, l => ∃ p q, R f.type p ∧ TVF R fs q ∧ l = p ++ q
def TV (P : Program) : Nat → TypeId → List AV → Prop
  | 0, _, _ => False
  | n + 1, t, l => match P.underlying t with
    | some .bool => ∃ b, l = [.bool b]
    | some (.int k) => ∃ m, l = [.int k m] ∧ (Lit.int k m).wf = true
    | some .string => ∃ s, l = [.str s] ∧ s.length ≤ maxLen
    | some (.struct fs) => TVF (TV P n) fs.toList l
    | some (.slice e) => ∃ els, l = [.sl none (P.cellsOf e) els] ∧ els.length ≤ maxLen ∧ ∀ c ∈ els, TV P n e c
    | _ => False
/-- .. of an argument. -/
def TA (P : Program) (n : Nat) (t : TypeId) (a : AV) : Prop := match P.underlying t with
  | some (.struct _) => ∃ l, a = .agg l ∧ TV P n t l
  | _ => TV P n t [a]
def TAs (P : Program) (n : Nat) : List TypeId → List AV → Prop
  | [], l => l = []
  | t :: ts, l => ∃ a q, TA P n t a ∧ TAs P n ts q ∧ l = a :: q

/-- Cells read as abstract values. -/
structure VRs (W : World) (U : Nat → Nat → Prop) (cs : List Value) (l : List AV) : Prop where
  len : cs.length = l.length
  vr : ∀ (i : Nat) (v : Value) (c : AV), cs[i]? = some v → l[i]? = some c → VR W U v c
  one : ∀ v ∈ cs, v.oneCell' = true
section
variable {W : World} {U : Nat → Nat → Prop}
theorem VRs.nil : VRs W U [] [] := ⟨rfl, fun i v c h => by simp at h, fun v h => by simp at h⟩
theorem VRs.one1 {v : Value} {c : AV} (h : VR W U v c) (h1 : v.oneCell' = true) : VRs W U [v] [c] :=
  ⟨rfl, fun i v' c' hv hc => by
    cases i with
    | zero => simp at hv hc; subst hv; subst hc; exact h
    | succ i => simp at hv, fun v' hv => by simp at hv; subst hv; exact h1⟩
theorem VRs.append {a b : List Value} {l m : List AV} (h : VRs W U a l) (g : VRs W U b m) : VRs W U (a ++ b) (l ++ m) := by
  refine ⟨by simp [h.len, g.len], fun i v c hv hc => ?_, fun v hv => ?_⟩
  · by_cases hi : i < a.length
    · rw [List.getElem?_append_left hi] at hv
      rw [List.getElem?_append_left (by have := h.len; omega)] at hc
      exact h.vr i v c hv hc
    · rw [List.getElem?_append_right (by omega)] at hv
      rw [List.getElem?_append_right (by have := h.len; omega), ← h.len] at hc
      exact g.vr _ v c hv hc
  · rcases List.mem_append.1 hv with hv | hv
    · exact h.one v hv
    · exact g.one v hv
end

theorem list_of {α : Type} {R : Nat → α → Prop} : ∀ (n : Nat), (∀ i, i < n → ∃ a, R i a) → ∃ l : List α, l.length = n ∧ ∀ i a, l[i]? = some a → R i a
  | 0, _ => ⟨[], rfl, fun i a h => by simp at h⟩
  | n + 1, h => by
    obtain ⟨l, hl, hr⟩ := list_of n (fun i hi => h i (by omega))
    obtain ⟨a, ha⟩ := h n (by omega)
    refine ⟨l ++ [a], by simp [hl], fun i b hb => ?_⟩
    by_cases hi : i < n
    · rw [List.getElem?_append_left (by omega)] at hb; exact hr i b hb
    · rw [List.getElem?_append_right (by omega)] at hb
      have hin : i = n := by
        by_cases h0 : i - l.length = 0
        · omega
        · have : (i - l.length) = (i - l.length - 1) + 1 := by omega
          rw [this] at hb; simp at hb
      subst hin
      simp [hl] at hb
      exact hb ▸ ha

section
variable {H : Type} {enc : TypeId × Value → H} {P : Program} {W : World} {base : Nat} {spare : Nat → Bool} {held : Bool} {U : Nat → Nat → Prop}

theorem open_fields {R : TypeId → List AV → Prop} (cs : List Value) :
    ∀ (fs : List Field) (a tot : Nat), chainB P a fs = some tot → cs.length = tot → (∀ f ∈ fs, ∃ p, R f.type p ∧ VRs W U ((cs.drop f.offset).take (P.cellsOf f.type)) p ) →
      ∃ l, TVF R fs l ∧ VRs W U (cs.drop a) l
  | [], a, tot, h, hl, _ => by
    simp only [chainB, Option.some.injEq] at h
    subst h
    exact ⟨[], rfl, by rw [List.drop_eq_nil_of_le (by omega)]; exact VRs.nil⟩
  | f :: fs, a, tot, h, hl, hf => by
    simp only [chainB] at h
    split at h
    · rename_i ha
      obtain ⟨p, h1, h2⟩ := hf f (by simp)
      obtain ⟨q, g1, g2⟩ := open_fields cs fs _ tot h hl (fun g hg => hf g (by simp [hg]))
      refine ⟨p ++ q, ⟨p, q, h1, g1, rfl⟩, ?_⟩
      have e : cs.drop a = (cs.drop a).take (P.cellsOf f.type) ++ cs.drop (a + P.cellsOf f.type) := by
        rw [← List.drop_drop, List.take_append_drop]
      rw [e]
      rw [ha] at h2
      exact h2.append g2
    · cases h

theorem open_flat (hU : ∀ b o, ¬ U b o) : ∀ (n : Nat) (t : TypeId) (cs : List Value) (fuel : Nat) (x : DataW H × List MemPlace), flatB P n t = true → DataW.trod enc P W base spare held fuel t cs = some x →
    ∃ l, TV P n t l ∧ VRs W U cs l
  | 0, t, cs, fuel, x, hf, h => by simp [flatB] at hf
  | n + 1, t, cs, fuel, x, hf, h => by
    unfold flatB at hf
    unfold TV
    split at hf
    · rename_i ht
      obtain ⟨b, rfl, _⟩ := DataW.trod_bool ht h
      exact ⟨_, ⟨b, rfl⟩, VRs.one1 (.bool b) rfl⟩
    · rename_i k ht
      obtain ⟨m, rfl, _, hw⟩ := DataW.trod_int ht h
      exact ⟨_, ⟨m, rfl, hw⟩, VRs.one1 (.int k m) rfl⟩
    · rename_i ht
      obtain ⟨s, rfl, _, hs⟩ := DataW.trod_string ht h
      obtain ⟨⟨l⟩⟩ := s
      exact ⟨_, ⟨l, rfl, hs⟩, VRs.one1 (.str l) rfl⟩
    · rename_i fs ht
      simp only [Bool.and_eq_true, decide_eq_true_eq, List.all_eq_true] at hf
      obtain ⟨hch, hall⟩ := hf
      obtain ⟨xs, m, _, _, hlen, hxl, hfi⟩ := DataW.trod_struct ht h
      have := open_fields (W := W) (U := U) (R := TV P n) cs fs.toList 0 _ hch hlen (fun f hfm => ?_)
      · simpa using this
      obtain ⟨i, hi, hfe⟩ := List.getElem_of_mem hfm
      have hfi' := hfi i f (by rw [← hfe]; simp at hi; simp [hi])
      have hxi : xs[i]? = some (xs[i]'(by simp at hi; omega)) := List.getElem?_eq_getElem _
      rw [hxi] at hfi'
      obtain ⟨p, h1, h2⟩ := open_flat hU n f.type _ _ _ (hall f hfm) hfi'
      exact ⟨p, h1, h2⟩
    · rename_i e ht
      simp only [Bool.and_eq_true, decide_eq_true_eq] at hf
      obtain ⟨hpos, hfe⟩ := hf
      rcases Go.Deep.open_slice ht h with ⟨rfl, _⟩ | ⟨a, len, cap, m, n', D, Pl, rfl, _, hl, hm, hmm, _, hi⟩
      · refine ⟨_, ⟨[], rfl, by simp, by simp⟩, VRs.one1 ?_ rfl⟩
        exact .sl none 0 none [] 0 0 (P.cellsOf e) (fun _ _ => undef) (by simp) (by simp) (by simp) (by simp) (by simp) (by simp)
      · have hlm : len ≤ m := by rw [hmm]; split <;> omega
        obtain ⟨els, hel, hr⟩ := list_of (R := fun i l => TV P n e l ∧ ∃ cs', W.cells? base (a.add (i * P.cellsOf e)) (P.cellsOf e) = some cs' ∧ VRs W U cs' l) len (fun i hil => by
          obtain ⟨cs', hc, ht'⟩ := hi i (by omega)
          obtain ⟨l, h1, h2⟩ := open_flat hU n e _ _ _ hfe ht'
          exact ⟨l, h1, cs', hc, h2⟩)
        refine ⟨_, ⟨els, rfl, by omega, fun c hc => ?_⟩, VRs.one1 ?_ rfl⟩
        · obtain ⟨i, hi', rfl⟩ := List.getElem_of_mem hc
          exact (hr i _ (List.getElem?_eq_getElem hi')).1
        · obtain ⟨b, o, spot⟩ := a
          have hcell : ∀ i j, i < els.length → j < P.cellsOf e → ∃ v, W.cell? ⟨b, o + i * P.cellsOf e + j, none⟩ = some v ∧ v.oneCell' = true ∧ (∀ c, (els[i]?.bind (·[j]?)) = some c → VR W U v c) ∧ (0 < len → spot = none) := by
            intro i j hi' hj
            obtain ⟨_, cs', hc, hv⟩ := hr i _ (List.getElem?_eq_getElem hi')
            obtain ⟨_, hcl, hat⟩ := World.cells?_some hc
            have hcj := hat j hj
            have hjl : cs'[j]? = some (cs'[j]'(by omega)) := List.getElem?_eq_getElem _
            rw [hjl] at hcj
            have hsp : 0 < len → spot = none := fun h0 => by
              obtain ⟨cs0, hc0, _⟩ := hi 0 (by omega)
              obtain ⟨_, hcl0, hat0⟩ := World.cells?_some hc0
              have := hat0 0 hpos
              rw [show cs0[0]? = some (cs0[0]'(by omega)) from List.getElem?_eq_getElem _] at this
              have := World.cell?_spot this
              simpa [Addr.add] using this
            have hs0 := hsp (by omega)
            subst hs0
            have ea : ((⟨b, o, none⟩ : Addr).add (i * P.cellsOf e)).add j = ⟨b, o + i * P.cellsOf e + j, none⟩ := by
              rw [Go.Deep.add_add]
              unfold Addr.add
              split
              · rename_i h0; first | (simp; done) | (simp; omega)
              · simp [Nat.add_assoc]
            rw [ea] at hcj
            refine ⟨_, hcj, hv.one _ (List.getElem_mem _), fun c hc' => ?_, hsp⟩
            rw [List.getElem?_eq_getElem hi'] at hc'
            exact hv.vr j _ c hjl hc'
          rw [← hel] at hl ⊢
          have hsz : ∀ l ∈ els, l.length = P.cellsOf e := fun l hl' => by
            obtain ⟨i, hi', rfl⟩ := List.getElem_of_mem hl'
            obtain ⟨_, cs', hc, hv⟩ := hr i _ (List.getElem?_eq_getElem hi')
            rw [← hv.len]
            exact (World.cells?_some hc).2.1
          refine .sl _ cap none els b o (P.cellsOf e) (fun i j => (W.cell? ⟨b, o + i * P.cellsOf e + j, none⟩).getD undef) hl hm (fun h0 => ?_) hsz (fun i j hi' hj => ?_) (fun i l j c hl' hc => ?_)
          · obtain ⟨v, _, _, _, hs⟩ := hcell 0 0 h0 hpos
            rw [hs (by omega)]
          · obtain ⟨v, h1, h2, _⟩ := hcell i j hi' hj
            rw [h1]
            exact ⟨rfl, h2, hU _ _⟩
          · have hi' : i < els.length := (List.getElem?_eq_some_iff.1 hl').1
            have hj : j < P.cellsOf e := by rw [← hsz l (List.mem_of_getElem? hl')]; exact (List.getElem?_eq_some_iff.1 hc).1
            obtain ⟨v, h1, _, h3, _⟩ := hcell i j hi' hj
            rw [h1]
            exact h3 c (by rw [hl']; exact hc)
    · cases hf

theorem open_arg (hU : ∀ b o, ¬ U b o) {r : Reach} {b0 n : Nat} {t : TypeId} {v : Value} {d : DataW H} {ps : List MemPlace} (hf : flatB P n t = true) (hval : Value.okWide P W r b0 t v) (hd : DataW.Trod enc P W base spare held t v d ps) :
    ∃ a, TA P n t a ∧ VR W U v a := by
  obtain ⟨fuel, hd⟩ := hd
  obtain ⟨l, h1, h2⟩ := open_flat (U := U) hU n t _ _ _ hf hd
  cases n with
  | zero => simp [flatB] at hf
  | succ n =>
    have key : ∀ w : Value, w.cells.toList = [w] → v = w → ∀ a, l = [a] → VR W U v a := fun w hw hv a ha => by
      subst hv; subst ha
      exact h2.vr 0 v a (by rw [hw]; rfl) rfl
    unfold TA
    unfold flatB at hf
    have h1' := h1
    unfold TV at h1
    split at hf
    · rename_i ht
      rw [ht] at h1 ⊢
      obtain ⟨b, rfl⟩ := h1
      obtain ⟨b', rfl⟩ : ∃ b', v = .bool b' := by
        simp only [Value.okWide, ht, Cell.okWide] at hval
        cases v <;> simp_all [Cell.ok]
      exact ⟨_, h1', key _ rfl rfl _ rfl⟩
    · rename_i k ht
      rw [ht] at h1 ⊢
      obtain ⟨m, rfl, _⟩ := h1
      obtain ⟨m', rfl⟩ := okWide_int ht hval
      exact ⟨_, h1', key _ rfl rfl _ rfl⟩
    · rename_i ht
      rw [ht] at h1 ⊢
      obtain ⟨s, rfl, _⟩ := h1
      obtain ⟨s', rfl⟩ := okWide_string ht hval
      exact ⟨_, h1', key _ rfl rfl _ rfl⟩
    · rename_i fs ht
      rw [ht]
      obtain ⟨cs, rfl, _⟩ := okWide_struct ht hval
      refine ⟨_, ⟨l, rfl, h1'⟩, ?_⟩
      obtain ⟨cs⟩ := cs
      exact .agg cs l h2.len h2.vr h2.one
    · rename_i e ht
      rw [ht] at h1 ⊢
      obtain ⟨els, rfl, _⟩ := h1
      obtain ⟨a, len, cap, rfl⟩ := okWide_slice ht hval
      exact ⟨_, h1', key _ rfl rfl _ rfl⟩
    · cases hf

theorem open_args (hU : ∀ b o, ¬ U b o) {r : Reach} {b0 n : Nat} : ∀ {ts : List TypeId} {vs : List Value} {ds : List (DataW H)} {ps : List MemPlace}, (∀ t ∈ ts, flatB P n t = true) →
    (∀ (j : Nat) t v, ts[j]? = some t → vs[j]? = some v → Value.okWide P W r b0 t v) → DataW.TrodAll enc P W base spare held ts vs ds ps →
    ∃ l, TAs P n ts l ∧ vs.length = l.length ∧ ∀ (i : Nat) (v : Value) (c : AV), vs[i]? = some v → l[i]? = some c → VR W U v c
  | [], vs, ds, ps, _, _, h => by
    cases vs with
    | nil => exact ⟨[], rfl, rfl, fun i v c h => by simp at h⟩
    | cons v vs => cases ds <;> exact h.elim
  | t :: ts, vs, ds, ps, hf, hval, h => by
    cases vs with
    | nil => cases ds <;> exact h.elim
    | cons v vs =>
      cases ds with
      | nil => exact h.elim
      | cons d ds =>
        obtain ⟨p, q, h1, h2, _⟩ := h
        obtain ⟨a, ha, hv⟩ := open_arg (U := U) hU (hf t (by simp)) (hval 0 t v rfl rfl) h1
        obtain ⟨l, hl, hlen, hvr⟩ := open_args hU (fun t' ht' => hf t' (by simp [ht'])) (fun j t' v' h3 h4 => hval (j + 1) t' v' h3 h4) h2
        refine ⟨a :: l, ⟨a, l, ha, hl, rfl⟩, by simp [hlen], fun i w c h3 h4 => ?_⟩
        cases i with
        | zero => simp at h3 h4; subst h3; subst h4; exact hv
        | succ i => exact hvr i w c h3 h4

theorem args_stay (hl : laidOutB P = true) {W' : World} (hb : Below W.heap.size W W') {sp' : Nat → Bool} : ∀ {ts : List TypeId} {vs : List Value} {ds : List (DataW H)} {ps : List MemPlace}, (∀ t ∈ ts, P.readableRec t = true ∧ t < P.types.size) →
    DataW.TrodAll enc P W 0 (fun _ => true) true ts vs ds ps → (∀ x ∈ ps, x.block < W.heap.size) → (∀ x ∈ ps, sp' x.block = true) → DataW.TrodAll enc P W' 0 sp' true ts vs ds ps
  | [], vs, ds, ps, _, h, _, _ => by cases vs <;> cases ds <;> exact h
  | t :: ts, vs, ds, ps, ht, h, hlt, hsp => by
    cases vs with
    | nil => cases ds <;> exact h.elim
    | cons v vs =>
      cases ds with
      | nil => exact h.elim
      | cons d ds =>
        obtain ⟨p, q, h1, h2, rfl⟩ := h
        refine ⟨p, q, ?_, args_stay hl hb (fun t' ht' => ht t' (by simp [ht'])) h2 (fun x hx => hlt x (by simp [hx])) (fun x hx => hsp x (by simp [hx])), rfl⟩
        exact WideElems.Trod_stays hl (ht t (by simp)).1 (ht t (by simp)).2 h1 (fun x hx => hb.same (hlt x (by simp [hx]))) (fun x hx => hsp x (by simp [hx]))

theorem post_of_below {f : Func} {s : ChangeSpec} {apart fresh handsOn again : Bool} {W W' : World} {args : Array Value} {v : Value} {ds gs : List (DataW H)} {before pa pv : List MemPlace}
    (hW : DataW.Whole enc P f.params.toList s.vars apart W args.toList ds gs before)
    (hres : ∀ (b : Nat) (sp : Nat → Bool) (hd : Bool), DataW.TrodAll enc P W' b sp hd f.resultTypes.toList (v.resultList f.resultTypes.size) (s.fn H (ds ++ gs)).results [])
    (hargs : ∀ sp : Nat → Bool, (∀ p ∈ before, sp p.block = true) → DataW.TrodAll enc P W' 0 sp true f.params.toList args.toList (s.fn H (ds ++ gs)).args pa)
    (hvars : ∀ sp : Nat → Bool, (∀ p ∈ before, sp p.block = true) → DataW.TrodVars enc P W' sp s.vars (s.fn H (ds ++ gs)).vars pv)
    (hps : before = pa ++ pv) (hb : Below W.heap.size W W')
    (hok : ∀ (j : Nat) (t : TypeId) (r : Value), f.resultTypes[j]? = some t → (v.resultList f.resultTypes.size)[j]? = some r → Value.okWide P W' .any 0 t r) :
    s.post enc P f apart fresh handsOn again W args v W' := by
  have hlt : ∀ p ∈ before, p.block < W.heap.size := fun p hp => hW.lt p hp
  have hold : ∀ p ∈ before, (fun b => decide (b < W.heap.size)) p.block = true := fun p hp => by simpa using hlt p hp
  refine ⟨ds, gs, before, [], pa, pv, hW, hres _ _ _, hargs _ hold, hvars _ hold, World.keptBut_mono (fun p hp => ⟨hp, ?_⟩) (hb.frame (· ∈ before)), fun _ => ?_⟩
  · rw [hps, List.mem_append] at hp
    exact Or.inr hp
  · obtain ⟨_, _, _, _, _, hz, hn⟩ := hW
    refine ⟨hok, _, _, ([] ++ pa) ++ pv, ⟨[] ++ pa, pv, trodAll_append (hargs _ (fun _ _ => rfl)) (hres _ _ _), hvars _ (fun _ _ => rfl), rfl, ?_, ?_⟩, ?_⟩
    · intro b off hp
      have hin : MemPlace.cell b off ∈ before := by rw [hps]; simpa using hp
      rw [hb.frozen (hlt _ hin)]
      exact hz b off hin
    · intro ha
      have := hn ha
      rw [hps] at this
      simpa using this
    · intro p hp _
      rw [hps]
      simpa using hp
/-- A LAW'S ROW: the law's function returns true on all abstract values of its parameters' types. -/
theorem row_of_CP {f : Func} {N n tb : Nat} {s : ChangeSpec} {args : Array Value} {ds gs : List (DataW H)} {before : List MemPlace} (hl : laidOutB P = true)
    (hread : f.params.toList.all (fun t => P.readableRec t && decide (t < P.types.size) && flatB P n t) = true) (hrt : f.resultTypes = #[tb]) (htb : P.underlying tb = some .bool) (hvars : s.vars = [])
    (hfn : gs = [] → ds.length = f.params.size → (s.fn H (ds ++ gs)).results = [.lit (.bool true)] ∧ (s.fn H (ds ++ gs)).args = ds ∧ (s.fn H (ds ++ gs)).vars = [])
    (hval : ∀ (j : Nat) t v, f.params[j]? = some t → args[j]? = some v → Value.okWide P W .any base t v)
    (hW : DataW.Whole enc P f.params.toList s.vars false W args.toList ds gs before)
    (hG : Glob W fun _ _ => False) (hCP : ∀ l, TAs P n f.params.toList l → CP P N l (.bool true)) :
    Calls P N args W fun e W' => ∃ v, e = .returned v ∧ s.post enc P f false true false false W args v W' := by
  have hW' := hW
  obtain ⟨p, q, hA, hV, rfl, hfz, hnd⟩ := hW
  simp only [List.all_eq_true, Bool.and_eq_true, decide_eq_true_eq] at hread
  have hgs : gs = [] ∧ q = [] := by
    rw [hvars] at hV
    cases gs with
    | nil => exact ⟨rfl, hV⟩
    | cons g gs => exact hV.elim
  obtain ⟨rfl, rfl⟩ := hgs
  obtain ⟨l, hl1, hl2, hl3⟩ := open_args (U := fun _ _ => False) (fun _ _ h => h) (fun t ht => (hread t ht).2) (fun j t v h1 h2 => hval j t v (by simpa using h1) (by simpa using h2)) hA
  have hds : ds.length = f.params.size := by
    have : ∀ {ts : List TypeId} {vs : List Value} {ds : List (DataW H)} {ps : List MemPlace}, DataW.TrodAll enc P W 0 (fun _ => true) true ts vs ds ps → ds.length = ts.length := by
      intro ts
      induction ts with
      | nil => intro vs ds ps h; cases vs <;> cases ds <;> first | rfl | exact h.elim
      | cons t ts ih =>
        intro vs ds ps h
        cases vs <;> cases ds <;> first | exact h.elim | skip
        obtain ⟨p, q, _, h2, _⟩ := h
        simp [ih h2]
    simpa using this hA
  obtain ⟨f1, f2, f3⟩ := hfn rfl hds
  have hc := hCP l hl1 W (fun _ _ => False) args.toList hG hl2 hl3
  have ea : args.toList.toArray = args := by simp
  rw [ea] at hc
  refine Calls.mono hc fun e W' => ?_
  rintro ⟨v, U', rfl, hv, _, hx⟩
  cases hv
  refine ⟨_, rfl, post_of_below hW' (pa := p) (pv := []) (fun _ _ _ => ?_) (fun sp hsp => ?_) (fun _ _ => ?_) rfl hx.b ?_⟩
  · rw [hrt, f1]
    exact trodAll_mk1 (shut_bool htb true)
  · rw [f2]
    exact args_stay hl hx.b (fun t ht => (hread t ht).1) hA (fun x hx => hW'.lt x (by simpa using hx)) (fun x hx => hsp x (by simpa using hx))
  · rw [hvars, f3]; rfl
  · exact ok_one hrt rfl (okWide_bool_mk htb _)
end
end Go.Proofs.YtbjmcmgekcmbpaaGreatDoor

/- the listed tables at the call's start, of the row confPrints -/
namespace Go.Proofs.YtbjmcmgekcmbpaaGreatDoor
set_option linter.all false
open Go Go.RowKit
set_option maxRecDepth 100000
section
variable {H : Type} {enc : TypeId × Value → H}
/-- The contract may lean on the condition X and on the world's shape. -/
theorem hand_and_shaped {a : Assume} {C : Checked} {os : Os} {f : FuncId} {fn : Func} {s : ChangeSpec} {conds : List PathCond} {apart fresh handsOn again : Bool} {X : World → Array Value → Prop}
    (hX : ∀ (w w' : World) (args : Array Value), w.heap = w'.heap → X w args → X w' args)
    (own : ownKnob C.prog.godebug = none) (started : os.Started) (noInit : C.prog.inits.idxOf? f = none) (hfn : C.prog.funcs[f]? = some fn)
    (witness : ∃ (w : World) (tape : Tape) (i : Input), w.os = os ∧ (w.forCall tape i).Shaped C.prog ∧ i.vars = [] ∧ Input.okWide C.prog (w.forCall tape i) .any w.heap.size f i ∧
      ((s.pre enc C.prog fn conds apart (w.forCall tape i).memory i.args ∧ X (w.forCall tape i).memory i.args) ∧ sizedMet enc C.prog fn (OpenSpec.ofChange s) apart (w.forCall tape i).memory i.args) ∧ a.holds C.prog (lone (Frame.enter C.prog f i.args .normal) [] (w.forCall tape i)))
    (contract : ∀ (W : World) (base : Nat) (args : Array Value) (ds gs : List (DataW H)) (before : List MemPlace),
      (∀ (j : Nat) t v, fn.params[j]? = some t → args[j]? = some v → Value.okWide C.prog W .any base t v) →
      DataW.Whole enc C.prog fn.params.toList s.vars apart W args.toList ds gs before →
      conds.all (PathCond.test C.prog ⟨fn.params.toList, ds, s.plain.varTypes C.prog, gs⟩) = true →
      (DataW.weightsEach C.prog (fn.params.toList ++ s.plain.varTypes C.prog) (ds ++ gs)).all (· ≤ reachBytes) = true → X W args → W.ShapedOpen C.prog →
      a.holds C.prog (lone (Frame.enter C.prog f args .normal) [] W) →
      Calls C.prog f args W fun e W' => ∃ v, e = .returned v ∧ s.post enc C.prog fn apart fresh handsOn again W args v W') :
    ReturnsInHanded a C os f .any (fun w args => (s.pre enc C.prog fn conds apart w args ∧ X w args) ∧ sizedMet enc C.prog fn (OpenSpec.ofChange s) apart w args) (s.post enc C.prog fn apart fresh handsOn again) := by
  refine returnsInHanded_of_calls own started noInit witness ?_
  intro w tape i _ hsh _ hok hpre hholds
  obtain ⟨_, _, _, fn', hfn', _, _, _, _, hval⟩ := hok
  have e : fn' = fn := Option.some.inj (hfn'.symm.trans hfn)
  subst e
  obtain ⟨⟨⟨ds, gs, before, hw, hc⟩, hx⟩, hz⟩ := hpre
  have hw' := DataW.Whole.of_heap (w' := w.forCall tape i) (by rfl) hw
  refine (contract (w.forCall tape i) w.heap.size i.args ds gs before hval hw' hc (hz.weights hw) (hX _ _ _ (by rfl) hx) hsh hholds).mono fun e W' ⟨v, he, hp⟩ => ?_
  subst he
  exact ChangeSpec.post_blind hp
end
theorem glob_of {W : World} (h : laidMetH Tryz.prog Rows.confPrintsRow.laid W) (hsh : W.ShapedOpen Tryz.prog) : Glob W fun _ _ => False := by
  rw [MakeChecks.laidMetH_plain _ _ _ (by kernel_rfl)] at h
  have h3 : laidMet Tryz.prog (("internal/strconv.uint64pow10", Lib.tabData .u64 Lib.pow10Tab) :: _) W := h.tail.tail
  have hp := Lib.tabIs_of_head (g := 0) (t := 113) (e := 98) (n := 20) (by kernel_rfl) (by kernel_rfl) (by kernel_rfl) (by kernel_rfl) (by kernel_rfl) (by kernel_rfl) h3
  intro x hx
  refine ⟨?_, fun _ h => h⟩
  simp only [globTabs, List.mem_cons, List.not_mem_nil, or_false] at hx
  rcases hx with rfl | rfl
  · have hg : Tryz.prog.globalNamed "internal/strconv.uint64pow10" = some 0 := by kernel_rfl
    simp only [Lib.TabIs, World.var?, hg, Option.bind_some] at hp
    split at hp
    · rename_i cs ty fr e
      exact ⟨cs, ty, fr, e, Option.some.inj hp⟩
    · cases hp
  · obtain ⟨m, hm⟩ := Tryz.laysM220.s1_3 W hsh
    unfold World.cell? at hm
    split at hm
    · rename_i cs ty fr e
      exact ⟨cs, ty, fr, e, m, by simpa using hm⟩
    · cases hm
end Go.Proofs.YtbjmcmgekcmbpaaGreatDoor
