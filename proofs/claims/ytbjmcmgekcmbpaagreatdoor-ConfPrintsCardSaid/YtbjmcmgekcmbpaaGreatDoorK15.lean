import Derived.Test.YtbjmcmgekcmbpaaGreatDoorK13
import Derived.Test.YtbjmcmgekcmbpaaGreatDoorK14
import Derived.WalkKit
import Derived.Laws.OwnMore
import Derived.Shelf.Strings.FieldsFuncAny
/- chapter 21: the program's smaller functions; strings.FieldsFunc at blanks -/
namespace Go.Proofs.YtbjmcmgekcmbpaaGreatDoor
set_option linter.all false
open Go.RowKit
set_option maxRecDepth 100000
section
open Go.Shelf Go.Lib
theorem blank_at (w : World) : PredAt Tryz.prog 49 #[] encR spB w := fun W r _ => by
  unfold FnGives
  by_cases h1 : r = 32 <;> by_cases h2 : r = 9
  all_goals
    have z1 : (r : Int) = 32 ↔ r = 32 := by omega
    have z2 : (r : Int) = 9 ↔ r = 9 := by omega
    go_enter Tryz.func49, Tryz.ntmps49
    go_wp2
    all_goals first | (exfalso; omega) | (go_ret; exact ⟨by simp [spB, h1, h2, z1, z2], 0, rfl⟩)
end
theorem p_Fields (s : List UInt8) (hs : s.length ≤ 1000000) : CP Tryz.prog 48 [.str s, .fn 49] (.sl none 1 (strs (wgo [] s))) := by
  intro W U us hG hl hu
  have he : us = [.string ⟨s.toArray⟩, .func (.func 49) #[] #[]] := by
    match us, hl with
    | [a, b], _ =>
      have h1 := (hu 0 a _ rfl rfl).str_inv
      have h2 := hu 1 b _ rfl rfl
      rw [h1]
      cases h2
      rfl
  subst he
  refine (Tryz.strings_FieldsFunc_runes 49 #[] (enters_of Tryz.func49 (by kernel_rfl) rfl) spB ⟨s.toArray⟩ W (by rw [sz_str]; omega) (blank_at W).runes).mono ?_
  rintro e W' ⟨A, rfl, hA, hown, hb⟩
  have hp := fields_words s
  have hlen := wgo_len s []
  rw [← hp] at hlen
  rw [← hp]
  generalize Lib.goFieldsP spB ⟨s.toArray⟩ = B at hown hlen
  refine ⟨_, fun k o => if k < W.heap.size then U k o else False, rfl, ?_, trivial, ⟨hb, fun k hk o => by simp [hk]⟩⟩
  have hle : B.length = (strs (B.map (·.data.toList))).length := by simp
  rw [hle]
  refine .sl _ _ none _ A 0 1 (fun i _ => (B.map Value.string).getD i undef) (Nat.le_refl _) ?_ (fun _ => rfl) (fun e he => ?_) (fun i j hi hj => ?_) (fun i e j x he hx => ?_)
  · rw [← hle]; simp only [List.length_map] at hlen; unfold maxLen; omega
  · simp only [List.map_map, List.mem_map, Function.comp] at he
    obtain ⟨a, _, rfl⟩ := he
    rfl
  · have hi' : i < B.length := by simpa using hi
    obtain rfl : j = 0 := by omega
    refine ⟨?_, ?_, by simp; omega⟩
    · have := World.ownsRow.cellAt hown i (by omega)
      have e2 : 0 + i * 1 + 0 = i := by omega
      rw [e2, this]
      simp [hi']
    · simp [hi', Value.oneCell']
  · simp only [List.map_map, List.getElem?_map, Option.map_eq_some_iff, Function.comp] at he
    obtain ⟨a, ha, rfl⟩ := he
    cases j with
    | zero =>
      simp only [List.getElem?_cons_zero, Option.some.injEq] at hx
      subst hx
      have : (B.map Value.string).getD i undef = .string a := by simp [ha]
      show VR _ _ ((B.map Value.string).getD i undef) _
      rw [this]
      exact .str _
    | succ j => simp at hx
theorem p_limited (l : Lim) : CP Tryz.prog 24 [.agg l.cs] (.bool (decide (limQ l))) := by
  refine ok_conf_limited _ _ (by simp) ?_
  obtain ⟨lg, lb, ln⟩ := l
  simp only [c_conf_limited, ↓Ed, Eu, ↓reduceIte, reduceCtorEq, Nat.reduceAdd, Nat.reduceEqDiff, Nat.reduceLT, Nat.reduceLeDiff, Int.reduceToNat, Int.reduceEq, Int.reduceLT, Int.reduceLE, w64, List.length_append, List.length_map, Nat.mul_one, beq_self_eq_true, Lim.cs, PathC.cs, RuleC.cs, gdP, gdR]
  repeat' ((first | refine NewB_intro0 (fun b => ?_) | (refine NewB_intro (fun b hb => ?_); simp only [ln_cons2, ln_nil, and_true] at hb) | (with_reducible apply And.intro; (focus (first | omega | (simp only [Fact, Bool.not_eq_true', Bool.not_eq_false', decide_eq_true_eq, decide_eq_false_iff_not] at *; omega)))) | ((first | refine gW_sp ?_ | refine condW_sp ?_ | refine pickW_sp ?_); (try refine Sp_n ?_); (first | refine Sp_t (by assumption) ?_ | refine Sp_f (by assumption) ?_ | refine Sp_split (fun h => ?_) (fun h => ?_)) <;> (first | have h' := Fact_lt h | have h' := Fact_nlt h | have h' := Fact_le h | have h' := Fact_nle h | skip) <;> (try (exfalso; omega))) | refine TreeW_intro (by rfl) ?_ | refine TreeW_all ?_ | refine upQ_intro ?_ | refine Two_intro ?_ ?_ | (refine leK_lit ?_; (simp [-List.getD_eq_getElem?_getD, LeL, lk, *]; done)) | (refine leK_dd ?_; (simp [-List.getD_eq_getElem?_getD, LeS, LeL, lk, *]; done)) | (simp only [Fact, Bool.not_eq_true', Bool.not_eq_false', decide_eq_true_eq, decide_eq_false_iff_not] at *; refine leK_dd ?_; (simp [-List.getD_eq_getElem?_getD, LeS, LeL, lk, *]; done)) | (show (_ : Nat) ≤ _; omega)) <;> (try simp (disch := omega) only [*, ↓Ed, Eu, ↓reduceIte, reduceCtorEq, Nat.reduceAdd, Nat.reduceEqDiff, Nat.reduceLT, Nat.reduceLeDiff, Int.reduceToNat, Int.reduceEq, Int.reduceLT, Int.reduceLE, w64, List.length_append, List.length_map, Nat.mul_one, beq_self_eq_true, Lim.cs, PathC.cs, RuleC.cs, gdP, gdR]))
  rename Nat => p
  refine wpx_loop (fun k : Nat => ⟨lk [(1, .ptr p 0), (11, .agg [.int .i64 lg, .int .i64 lb, .int .i64 ln]), (12, .int .i64 (k : Int))], lk [(p, [.int .i64 lg, .int .i64 lb, .int .i64 ln])]⟩) (fun k => k ≤ 3 ∧ Fact ((0 < k → 1 ≤ lg ∧ lg ≤ 1073741824) ∧ (1 < k → 1 ≤ lb ∧ lb ≤ 1073741824) ∧ (2 < k → 1 ≤ ln ∧ ln ≤ 1073741824))) (fun k => 3 - k) 0 ⟨by omega, by simp [Fact]⟩ (Le_lit (by simp [LeL, lk])) ?_
  rintro k ⟨h0, h1⟩
  have hk : k = 0 ∨ k = 1 ∨ k = 2 ∨ k = 3 := by omega
  rcases hk with rfl | rfl | rfl | rfl
  all_goals simp (disch := omega) only [↓Ed, Eu, ↓reduceIte, reduceCtorEq, Nat.reduceAdd, Nat.reduceEqDiff, Nat.reduceLT, Nat.reduceLeDiff, Int.reduceToNat, Int.reduceEq, Int.reduceLT, Int.reduceLE, w64, List.length_append, List.length_map, Nat.mul_one, beq_self_eq_true, Lim.cs, PathC.cs, RuleC.cs, gdP, gdR]
  all_goals repeat' ((first | refine NewB_intro0 (fun b => ?_) | (refine NewB_intro (fun b hb => ?_); simp only [ln_cons2, ln_nil, and_true] at hb) | (with_reducible apply And.intro; (focus (first | omega | (simp only [Fact, Bool.not_eq_true', Bool.not_eq_false', decide_eq_true_eq, decide_eq_false_iff_not] at *; omega)))) | ((first | refine gW_sp ?_ | refine condW_sp ?_ | refine pickW_sp ?_); (try refine Sp_n ?_); (first | refine Sp_t (by assumption) ?_ | refine Sp_f (by assumption) ?_ | refine Sp_split (fun h => ?_) (fun h => ?_)) <;> (first | have h' := Fact_lt h | have h' := Fact_nlt h | have h' := Fact_le h | have h' := Fact_nle h | skip) <;> (try (exfalso; omega))) | refine TreeW_intro (by rfl) ?_ | refine TreeW_all ?_ | refine upQ_intro ?_ | refine Two_intro ?_ ?_ | (refine leK_lit ?_; (simp [-List.getD_eq_getElem?_getD, LeL, lk, *]; done)) | (refine leK_dd ?_; (simp [-List.getD_eq_getElem?_getD, LeS, LeL, lk, *]; done)) | (simp only [Fact, Bool.not_eq_true', Bool.not_eq_false', decide_eq_true_eq, decide_eq_false_iff_not] at *; refine leK_dd ?_; (simp [-List.getD_eq_getElem?_getD, LeS, LeL, lk, *]; done)) | (show (_ : Nat) ≤ _; omega)) <;> (try simp (disch := omega) only [*, ↓Ed, Eu, ↓reduceIte, reduceCtorEq, Nat.reduceAdd, Nat.reduceEqDiff, Nat.reduceLT, Nat.reduceLeDiff, Int.reduceToNat, Int.reduceEq, Int.reduceLT, Int.reduceLE, w64, List.length_append, List.length_map, Nat.mul_one, beq_self_eq_true, Lim.cs, PathC.cs, RuleC.cs, gdP, gdR]))
  all_goals simp only [Fact, Bool.not_eq_true', Bool.not_eq_false', decide_eq_true_eq, decide_eq_false_iff_not] at *
  case inl.refine_1.right.refine_2.refine_2 => exact Round_lit 1 ⟨Le_lit (by simp [LeL, lk]), ⟨by omega, by simp, by simp, by simp⟩, by omega⟩
  case inr.inl.refine_1.right.refine_2.refine_2 => exact Round_lit 2 ⟨Le_lit (by simp [LeL, lk]), ⟨by omega, fun _ => h1.1 (by omega), by simp, by simp⟩, by omega⟩
  case inr.inr.inl.refine_1.right.refine_2.refine_2 => exact Round_lit 3 ⟨Le_lit (by simp [LeL, lk]), ⟨by omega, fun _ => h1.1 (by omega), fun _ => h1.2.1 (by omega), by simp⟩, by omega⟩
  all_goals first
    | (symm; rw [decide_eq_false_iff_not]; simp only [limQ]; omega)
    | (symm; rw [decide_eq_true_eq]; simp only [limQ]; omega)
theorem p_mayLimits (l : Lim) : CP Tryz.prog 30 [.agg l.cs] (.bool (decide (limQ l))) := by
  refine ok_ligref20_mayLimits _ _ (by simp) ?_
  obtain ⟨lg, lb, ln⟩ := l
  simp only [c_ligref20_mayLimits, ↓Ed, Eu, ↓reduceIte, reduceCtorEq, Nat.reduceAdd, Nat.reduceEqDiff, Nat.reduceLT, Nat.reduceLeDiff, Int.reduceToNat, Int.reduceEq, Int.reduceLT, Int.reduceLE, w64, List.length_append, List.length_map, Nat.mul_one, beq_self_eq_true, Lim.cs, PathC.cs, RuleC.cs, gdP, gdR]
  repeat' ((first | refine NewB_intro0 (fun b => ?_) | (refine NewB_intro (fun b hb => ?_); simp only [ln_cons2, ln_nil, and_true] at hb) | (with_reducible apply And.intro; (focus (first | omega | (simp only [Fact, Bool.not_eq_true', Bool.not_eq_false', decide_eq_true_eq, decide_eq_false_iff_not] at *; omega)))) | ((first | refine gW_sp ?_ | refine condW_sp ?_ | refine pickW_sp ?_); (try refine Sp_n ?_); (first | refine Sp_t (by assumption) ?_ | refine Sp_f (by assumption) ?_ | refine Sp_split (fun h => ?_) (fun h => ?_)) <;> (first | have h' := Fact_lt h | have h' := Fact_nlt h | have h' := Fact_le h | have h' := Fact_nle h | skip) <;> (try (exfalso; omega))) | refine TreeW_intro (by rfl) ?_ | refine TreeW_all ?_ | refine upQ_intro ?_ | refine Two_intro ?_ ?_ | (refine leK_lit ?_; (simp [-List.getD_eq_getElem?_getD, LeL, lk, *]; done)) | (refine leK_dd ?_; (simp [-List.getD_eq_getElem?_getD, LeS, LeL, lk, *]; done)) | (simp only [Fact, Bool.not_eq_true', Bool.not_eq_false', decide_eq_true_eq, decide_eq_false_iff_not] at *; refine leK_dd ?_; (simp [-List.getD_eq_getElem?_getD, LeS, LeL, lk, *]; done)) | (show (_ : Nat) ≤ _; omega)) <;> (try simp (disch := omega) only [*, ↓Ed, Eu, ↓reduceIte, reduceCtorEq, Nat.reduceAdd, Nat.reduceEqDiff, Nat.reduceLT, Nat.reduceLeDiff, Int.reduceToNat, Int.reduceEq, Int.reduceLT, Int.reduceLE, w64, List.length_append, List.length_map, Nat.mul_one, beq_self_eq_true, Lim.cs, PathC.cs, RuleC.cs, gdP, gdR]))
  all_goals simp only [Fact, Bool.not_eq_true', Bool.not_eq_false', decide_eq_true_eq, decide_eq_false_iff_not] at *
  all_goals first
    | (symm; rw [decide_eq_false_iff_not]; simp only [limQ]; omega)
    | (symm; rw [decide_eq_true_eq]; simp only [limQ]; omega)
    | (rw [decide_eq_decide]; unfold limQ; simp only []; omega)
theorem p_spaced (n : Int) : CP Tryz.prog 25 [.int .i64 n] (.bool (decide (1 ≤ n ∧ n ≤ 1000000))) := by
  refine ok_conf_spaced _ _ (by simp) ?_
  simp only [c_conf_spaced, ↓Ed, Eu, ↓reduceIte, reduceCtorEq, Nat.reduceAdd, Nat.reduceEqDiff, Nat.reduceLT, Nat.reduceLeDiff, Int.reduceToNat, Int.reduceEq, Int.reduceLT, Int.reduceLE, w64, List.length_append, List.length_map, Nat.mul_one, beq_self_eq_true, Lim.cs, PathC.cs, RuleC.cs, gdP, gdR]
  repeat' ((first | refine NewB_intro0 (fun b => ?_) | (refine NewB_intro (fun b hb => ?_); simp only [ln_cons2, ln_nil, and_true] at hb) | (with_reducible apply And.intro; (focus (first | omega | (simp only [Fact, Bool.not_eq_true', Bool.not_eq_false', decide_eq_true_eq, decide_eq_false_iff_not] at *; omega)))) | ((first | refine gW_sp ?_ | refine condW_sp ?_ | refine pickW_sp ?_); (try refine Sp_n ?_); (first | refine Sp_t (by assumption) ?_ | refine Sp_f (by assumption) ?_ | refine Sp_split (fun h => ?_) (fun h => ?_)) <;> (first | have h' := Fact_lt h | have h' := Fact_nlt h | have h' := Fact_le h | have h' := Fact_nle h | skip) <;> (try (exfalso; omega))) | refine TreeW_intro (by rfl) ?_ | refine TreeW_all ?_ | refine upQ_intro ?_ | refine Two_intro ?_ ?_ | (refine leK_lit ?_; (simp [-List.getD_eq_getElem?_getD, LeL, lk, *]; done)) | (refine leK_dd ?_; (simp [-List.getD_eq_getElem?_getD, LeS, LeL, lk, *]; done)) | (simp only [Fact, Bool.not_eq_true', Bool.not_eq_false', decide_eq_true_eq, decide_eq_false_iff_not] at *; refine leK_dd ?_; (simp [-List.getD_eq_getElem?_getD, LeS, LeL, lk, *]; done)) | (show (_ : Nat) ≤ _; omega)) <;> (try simp (disch := omega) only [*, ↓Ed, Eu, ↓reduceIte, reduceCtorEq, Nat.reduceAdd, Nat.reduceEqDiff, Nat.reduceLT, Nat.reduceLeDiff, Int.reduceToNat, Int.reduceEq, Int.reduceLT, Int.reduceLE, w64, List.length_append, List.length_map, Nat.mul_one, beq_self_eq_true, Lim.cs, PathC.cs, RuleC.cs, gdP, gdR]))
  all_goals simp only [Fact, Bool.not_eq_true', Bool.not_eq_false', decide_eq_true_eq, decide_eq_false_iff_not] at *
  all_goals first
    | (symm; rw [decide_eq_false_iff_not]; omega)
    | (symm; rw [decide_eq_true_eq]; omega)
    | (rw [Bool.eq_iff_iff]; simp only [decide_eq_true_eq]; omega)
theorem p_number (s : List UInt8) (hs : s.length ≤ 16000000) : CP Tryz.prog 57 [.str s] (.tup [.int .i64 (numP s).1, .bool (decide ((numP s).2 = 0))]) := by
  refine ok_conf_number _ _ (by simp) ?_
  simp only [c_conf_number, ↓Ed, Eu, ↓reduceIte, reduceCtorEq, Nat.reduceAdd, Nat.reduceEqDiff, Nat.reduceLT, Nat.reduceLeDiff, Int.reduceToNat, Int.reduceEq, Int.reduceLT, Int.reduceLE, w64, List.length_append, List.length_map, Nat.mul_one, beq_self_eq_true, Lim.cs, PathC.cs, RuleC.cs, gdP, gdR]
  repeat' ((first | refine CallO_pure (p_Number _ (by omega)) ?_ | refine NewB_intro0 (fun b => ?_) | (refine NewB_intro (fun b hb => ?_); simp only [ln_cons2, ln_nil, and_true] at hb) | (with_reducible apply And.intro; (focus (first | omega | (simp only [Fact, Bool.not_eq_true', Bool.not_eq_false', decide_eq_true_eq, decide_eq_false_iff_not] at *; omega)))) | ((first | refine gW_sp ?_ | refine condW_sp ?_ | refine pickW_sp ?_); (try refine Sp_n ?_); (first | refine Sp_t (by assumption) ?_ | refine Sp_f (by assumption) ?_ | refine Sp_split (fun h => ?_) (fun h => ?_)) <;> (first | have h' := Fact_lt h | have h' := Fact_nlt h | have h' := Fact_le h | have h' := Fact_nle h | skip) <;> (try (exfalso; omega))) | refine TreeW_intro (by rfl) ?_ | refine TreeW_all ?_ | refine upQ_intro ?_ | refine Two_intro ?_ ?_ | (refine leK_lit ?_; (simp [-List.getD_eq_getElem?_getD, LeL, lk, *]; done)) | (refine leK_dd ?_; (simp [-List.getD_eq_getElem?_getD, LeS, LeL, lk, *]; done)) | (simp only [Fact, Bool.not_eq_true', Bool.not_eq_false', decide_eq_true_eq, decide_eq_false_iff_not] at *; refine leK_dd ?_; (simp [-List.getD_eq_getElem?_getD, LeS, LeL, lk, *]; done)) | (show (_ : Nat) ≤ _; omega)) <;> (try simp (disch := omega) only [*, ↓Ed, Eu, ↓reduceIte, reduceCtorEq, Nat.reduceAdd, Nat.reduceEqDiff, Nat.reduceLT, Nat.reduceLeDiff, Int.reduceToNat, Int.reduceEq, Int.reduceLT, Int.reduceLE, w64, List.length_append, List.length_map, Nat.mul_one, beq_self_eq_true, Lim.cs, PathC.cs, RuleC.cs, gdP, gdR]))
theorem p_words (s : List UInt8) (hs : s.length ≤ 1000000) : CP Tryz.prog 37 [.str s] (.sl none 1 (strs (wordsL s))) := by
  have h1 := p_Cut s [35] hs
  rw [cut_hash] at h1
  have h2 := p_Fields (noHash s) (Nat.le_trans (noHash_len s) hs)
  refine ok_conf_words _ _ (by simp) ?_
  simp only [c_conf_words, ↓Ed, Eu, ↓reduceIte, reduceCtorEq, Nat.reduceAdd, Nat.reduceEqDiff, Nat.reduceLT, Nat.reduceLeDiff, Int.reduceToNat, Int.reduceEq, Int.reduceLT, Int.reduceLE, w64, List.length_append, List.length_map, Nat.mul_one, beq_self_eq_true, Lim.cs, PathC.cs, RuleC.cs, gdP, gdR]
  repeat' ((first | refine CallO_pure (h1) ?_ | refine CallO_pure (h2) ?_ | refine NewB_intro0 (fun b => ?_) | (refine NewB_intro (fun b hb => ?_); simp only [ln_cons2, ln_nil, and_true] at hb) | (with_reducible apply And.intro; (focus (first | omega | (simp only [Fact, Bool.not_eq_true', Bool.not_eq_false', decide_eq_true_eq, decide_eq_false_iff_not] at *; omega)))) | ((first | refine gW_sp ?_ | refine condW_sp ?_ | refine pickW_sp ?_); (try refine Sp_n ?_); (first | refine Sp_t (by assumption) ?_ | refine Sp_f (by assumption) ?_ | refine Sp_split (fun h => ?_) (fun h => ?_)) <;> (first | have h' := Fact_lt h | have h' := Fact_nlt h | have h' := Fact_le h | have h' := Fact_nle h | skip) <;> (try (exfalso; omega))) | refine TreeW_intro (by rfl) ?_ | refine TreeW_all ?_ | refine upQ_intro ?_ | refine Two_intro ?_ ?_ | (refine leK_lit ?_; (simp [-List.getD_eq_getElem?_getD, LeL, lk, *]; done)) | (refine leK_dd ?_; (simp [-List.getD_eq_getElem?_getD, LeS, LeL, lk, *]; done)) | (simp only [Fact, Bool.not_eq_true', Bool.not_eq_false', decide_eq_true_eq, decide_eq_false_iff_not] at *; refine leK_dd ?_; (simp [-List.getD_eq_getElem?_getD, LeS, LeL, lk, *]; done)) | (show (_ : Nat) ≤ _; omega)) <;> (try simp (disch := omega) only [*, ↓Ed, Eu, ↓reduceIte, reduceCtorEq, Nat.reduceAdd, Nat.reduceEqDiff, Nat.reduceLT, Nat.reduceLeDiff, Int.reduceToNat, Int.reduceEq, Int.reduceLT, Int.reduceLE, w64, List.length_append, List.length_map, Nat.mul_one, beq_self_eq_true, Lim.cs, PathC.cs, RuleC.cs, gdP, gdR]))
  rfl
theorem apart_take {x : PathC} {l : List PathC} {k : Nat} (h : k < l.length) : apartP x (l.take (k + 1)) = (apartP x (l.take k) && !meets (l.getD k default) x) := by
  unfold apartP
  rw [List.take_succ_eq_append_getElem h, List.all_append]
  simp [List.getD, List.getElem?_eq_getElem h]
theorem apart_bad {x : PathC} {l : List PathC} {k : Nat} (h : k < l.length) (hm : meets (l.getD k default) x = true) : apartP x l = false := by
  unfold apartP
  rw [List.all_eq_false]
  refine ⟨l.getD k default, ?_, by rw [hm]; decide⟩
  rw [List.getD, List.getElem?_eq_getElem h]; exact List.getElem_mem h
theorem p_apart (x : PathC) (own : Option Nat) (l : List PathC) (hl : l.length ≤ maxLen) : CP Tryz.prog 27 [.agg x.cs, .sl own 5 (pths l)] (.bool (apartP x l)) := by
  have hm : maxLen = 9223372036854775807 := rfl
  refine ok_conf_apart _ _ (by simp) ?_
  obtain ⟨ap, ac, bp, bc, o⟩ := x
  simp only [c_conf_apart, ↓Ed, Eu, ↓reduceIte, reduceCtorEq, Nat.reduceAdd, Nat.reduceEqDiff, Nat.reduceLT, Nat.reduceLeDiff, Int.reduceToNat, Int.reduceEq, Int.reduceLT, Int.reduceLE, w64, List.length_append, List.length_map, Nat.mul_one, beq_self_eq_true, Lim.cs, PathC.cs, RuleC.cs, gdP, gdR]
  repeat' ((first | refine NewB_intro0 (fun b => ?_) | (refine NewB_intro (fun b hb => ?_); simp only [ln_cons2, ln_nil, and_true] at hb) | (with_reducible apply And.intro; (focus (first | omega | (simp only [Fact, Bool.not_eq_true', Bool.not_eq_false', decide_eq_true_eq, decide_eq_false_iff_not] at *; omega)))) | ((first | refine gW_sp ?_ | refine condW_sp ?_ | refine pickW_sp ?_); (try refine Sp_n ?_); (first | refine Sp_t (by assumption) ?_ | refine Sp_f (by assumption) ?_ | refine Sp_split (fun h => ?_) (fun h => ?_)) <;> (first | have h' := Fact_lt h | have h' := Fact_nlt h | have h' := Fact_le h | have h' := Fact_nle h | skip) <;> (try (exfalso; omega))) | refine TreeW_intro (by rfl) ?_ | refine TreeW_all ?_ | refine upQ_intro ?_ | refine Two_intro ?_ ?_ | (refine leK_lit ?_; (simp [-List.getD_eq_getElem?_getD, LeL, lk, *]; done)) | (refine leK_dd ?_; (simp [-List.getD_eq_getElem?_getD, LeS, LeL, lk, *]; done)) | (simp only [Fact, Bool.not_eq_true', Bool.not_eq_false', decide_eq_true_eq, decide_eq_false_iff_not] at *; refine leK_dd ?_; (simp [-List.getD_eq_getElem?_getD, LeS, LeL, lk, *]; done)) | (show (_ : Nat) ≤ _; omega)) <;> (try simp (disch := omega) only [*, ↓Ed, Eu, ↓reduceIte, reduceCtorEq, Nat.reduceAdd, Nat.reduceEqDiff, Nat.reduceLT, Nat.reduceLeDiff, Int.reduceToNat, Int.reduceEq, Int.reduceLT, Int.reduceLE, w64, List.length_append, List.length_map, Nat.mul_one, beq_self_eq_true, Lim.cs, PathC.cs, RuleC.cs, gdP, gdR]))
  rename Nat => p
  refine wpx_loop (fun k : Nat => ⟨lk [(2, .ptr p 0), (7, .sl none 5 (pths l)), (8, .int .i64 l.length), (9, .int .i64 (k : Int))], lk [(p, [.str ap, .int .i64 ac, .str bp, .int .i64 bc, .bool o])]⟩) (fun k => k ≤ l.length ∧ Fact (apartP ⟨ap, ac, bp, bc, o⟩ (l.take k) = true)) (fun k => l.length - k) 0 ⟨by omega, by simp [Fact, apartP]⟩ (Le_lit (by simp [LeL, lk])) ?_
  rintro k ⟨h0, h1⟩
  simp (disch := omega) only [↓Ed, Eu, ↓reduceIte, reduceCtorEq, Nat.reduceAdd, Nat.reduceEqDiff, Nat.reduceLT, Nat.reduceLeDiff, Int.reduceToNat, Int.reduceEq, Int.reduceLT, Int.reduceLE, w64, List.length_append, List.length_map, Nat.mul_one, beq_self_eq_true, Lim.cs, PathC.cs, RuleC.cs, gdP, gdR]
  repeat' ((first | refine NewB_intro0 (fun b => ?_) | (refine NewB_intro (fun b hb => ?_); simp only [ln_cons2, ln_nil, and_true] at hb) | (with_reducible apply And.intro; (focus (first | omega | (simp only [Fact, Bool.not_eq_true', Bool.not_eq_false', decide_eq_true_eq, decide_eq_false_iff_not] at *; omega)))) | ((first | refine gW_sp ?_ | refine condW_sp ?_ | refine pickW_sp ?_); (try refine Sp_n ?_); (first | refine Sp_t (by assumption) ?_ | refine Sp_f (by assumption) ?_ | refine Sp_split (fun h => ?_) (fun h => ?_)) <;> (first | have h' := Fact_lt h | have h' := Fact_nlt h | have h' := Fact_le h | have h' := Fact_nle h | skip) <;> (try (exfalso; omega))) | refine TreeW_intro (by rfl) ?_ | refine TreeW_all ?_ | refine upQ_intro ?_ | refine Two_intro ?_ ?_ | (refine leK_lit ?_; (simp [-List.getD_eq_getElem?_getD, LeL, lk, *]; done)) | (refine leK_dd ?_; (simp [-List.getD_eq_getElem?_getD, LeS, LeL, lk, *]; done)) | (simp only [Fact, Bool.not_eq_true', Bool.not_eq_false', decide_eq_true_eq, decide_eq_false_iff_not] at *; refine leK_dd ?_; (simp [-List.getD_eq_getElem?_getD, LeS, LeL, lk, *]; done)) | (show (_ : Nat) ≤ _; omega)) <;> (try simp (disch := omega) only [*, ↓Ed, Eu, ↓reduceIte, reduceCtorEq, Nat.reduceAdd, Nat.reduceEqDiff, Nat.reduceLT, Nat.reduceLeDiff, Int.reduceToNat, Int.reduceEq, Int.reduceLT, Int.reduceLE, w64, List.length_append, List.length_map, Nat.mul_one, beq_self_eq_true, Lim.cs, PathC.cs, RuleC.cs, gdP, gdR]))
  · simp only [Fact, Bool.not_eq_true', Bool.not_eq_false', decide_eq_true_eq, decide_eq_false_iff_not, Bool.and_eq_true] at *
    exact (apart_bad (k := k) (by omega) (by simp only [meets, h, and_self, decide_true, Bool.true_or])).symm
  · simp only [Fact, Bool.not_eq_true', Bool.not_eq_false', decide_eq_true_eq, decide_eq_false_iff_not, Bool.and_eq_true] at *
    exact (apart_bad (k := k) (by omega) (by simp only [meets, h, and_self, decide_true, Bool.or_true])).symm
  · rename_i _ h3
    have h4 := h
    simp only [Fact, Bool.not_eq_true', Bool.not_eq_false', decide_eq_true_eq, decide_eq_false_iff_not, Bool.and_eq_false_iff] at h3 h4
    refine Round_lit (k + 1) ⟨Le_lit (by simp [LeL, lk]), ⟨by omega, ?_⟩, by omega⟩
    simp only [Fact] at h1 ⊢
    rw [apart_take (by omega), h1]
    simp only [meets, Bool.true_and, Bool.not_eq_true', Bool.or_eq_false_iff, decide_eq_false_iff_not]
    exact ⟨fun g => h3.elim (fun q => q g.1) (fun q => q g.2), fun g => h4.elim (fun q => q g.1) (fun q => q g.2)⟩
  · simp only [Fact] at h1
    rw [List.take_of_length_le (by omega)] at h1
    exact h1.symm
end Go.Proofs.YtbjmcmgekcmbpaaGreatDoor

/- chapter 21: the program's parser: rule, every -/
namespace Go.Proofs.YtbjmcmgekcmbpaaGreatDoor
set_option linter.all false
open Go.RowKit
set_option maxRecDepth 100000
theorem gdS {l : List (List UInt8)} {i : Nat} (h : i < l.length) : (strs l).getD i [] = [.str (l.getD i [])] := by simp [strs, h]
def pcell : List PathC → AV
  | [] => .nils 39 5
  | p :: l => .sl (some 39) 5 (pths (p :: l))
def rcell : List RuleC → AV
  | [] => .nils 41 2
  | p :: l => .sl (some 41) 2 (rls (p :: l))
abbrev cfC (c : Conf) : List AV := [.str c.a, .str c.b, .int .i64 c.la.g, .int .i64 c.la.b, .int .i64 c.la.n, .int .i64 c.lb.g, .int .i64 c.lb.b, .int .i64 c.lb.n, pcell c.ps, rcell c.rs, .int .i64 c.iv]
abbrev psC (x : PS) : List AV := [.str x.c.a, .str x.c.b, .int .i64 x.c.la.g, .int .i64 x.c.la.b, .int .i64 x.c.la.n, .int .i64 x.c.lb.g, .int .i64 x.c.lb.b, .int .i64 x.c.lb.n, pcell x.c.ps, rcell x.c.rs, .int .i64 x.c.iv, .bool x.ha, .bool x.hb, .bool x.hi]
theorem rc_nil : rcell [] = .nils 41 2 := rfl
theorem rc_cons (p : RuleC) (l : List RuleC) : rcell (p :: l) = .sl (some 41) 2 (rls (p :: l)) := rfl
theorem pc_nil : pcell [] = .nils 39 5 := rfl
theorem pc_cons (p : PathC) (l : List PathC) : pcell (p :: l) = .sl (some 39) 5 (pths (p :: l)) := rfl
theorem al_pc (l : List PathC) : AV.alias (pcell l) = .sl none 5 (pths l) := by cases l <;> rfl
theorem al_rc (l : List RuleC) : AV.alias (rcell l) = .sl none 2 (rls l) := by cases l <;> rfl
/-- the cells of a result -/
def pst : List PathC → AV
  | [] => .nils 39 5
  | p :: l => .sl none 5 (pths (p :: l))
def rst : List RuleC → AV
  | [] => .nils 41 2
  | p :: l => .sl none 2 (rls (p :: l))
theorem so_pc (l : List PathC) : AV.store (pcell l) = pst l := by cases l <;> rfl
theorem so_rc (l : List RuleC) : AV.store (rcell l) = rst l := by cases l <;> rfl
theorem al_pst (l : List PathC) : AV.alias (pst l) = .sl none 5 (pths l) := by cases l <;> rfl
theorem al_rst (l : List RuleC) : AV.alias (rst l) = .sl none 2 (rls l) := by cases l <;> rfl
theorem so_pst (l : List PathC) : AV.store (pst l) = pst l := by cases l <;> rfl
theorem so_rst (l : List RuleC) : AV.store (rst l) = rst l := by cases l <;> rfl
abbrev cfS (c : Conf) : List AV := [.str c.a, .str c.b, .int .i64 c.la.g, .int .i64 c.la.b, .int .i64 c.la.n, .int .i64 c.lb.g, .int .i64 c.lb.b, .int .i64 c.lb.n, pst c.ps, rst c.rs, .int .i64 c.iv]
set_option maxHeartbeats 4000000 in
theorem p_rule (b : Nat) (x : PS) (w : List (List UInt8)) (hw : ∀ i, (w.getD i []).length ≤ 1000) (hl : w.length ≤ 1000) (hr : x.c.rs.length ≤ 32) :
    CT Tryz.prog 45 [.ptr b 0, .sl none 1 (strs w)] (lk [(b, psC x)]) (fun r o => r = .int .i64 (ruleQ x w).2 ∧ o = lk [(b, psC (ruleQ x w).1)]) := by
  have hm : maxLen = 9223372036854775807 := rfl
  have hw1 := hw 1
  refine okt_conf_parser_rule _ _ _ (by simp) ?_
  unfold ruleQ
  by_cases h1 : w.length = 2
  rotate_left
  · rw [if_pos h1]
    have f1 : Fact (decide ((w.length : Int) = 2) = false) := by simp only [Fact, Bool.not_eq_true', Bool.not_eq_false', decide_eq_true_eq, decide_eq_false_iff_not]; omega
    clear h1
    simp only [c_conf_parser_rule, ↓Ed, Eu, ↓reduceIte, reduceCtorEq, Nat.reduceAdd, Nat.reduceEqDiff, Nat.reduceLT, Nat.reduceLeDiff, Int.reduceToNat, Int.reduceEq, Int.reduceLT, Int.reduceLE, gdS, rc_nil, rc_cons, pc_nil, pc_cons, psC, w64, List.length_append, List.length_map, Nat.mul_one, beq_self_eq_true, Lim.cs, PathC.cs, RuleC.cs, gdP, gdR]
    repeat' ((first | refine NewB_intro0 (fun b => ?_) | (refine NewB_intro (fun b hb => ?_); simp only [ln_cons2, ln_nil, and_true] at hb) | (with_reducible apply And.intro; (focus (first | omega | (simp only [Fact, Bool.not_eq_true', Bool.not_eq_false', decide_eq_true_eq, decide_eq_false_iff_not] at *; omega)))) | ((first | refine gW_sp ?_ | refine condW_sp ?_ | refine pickW_sp ?_); (try refine Sp_n ?_); (first | refine Sp_t (by assumption) ?_ | refine Sp_f (by assumption) ?_ | refine Sp_split (fun h => ?_) (fun h => ?_)) <;> (first | have h' := Fact_lt h | have h' := Fact_nlt h | have h' := Fact_le h | have h' := Fact_nle h | skip) <;> (try (exfalso; omega))) | refine TreeW_intro (by rfl) ?_ | refine TreeW_all ?_ | refine upQ_intro ?_ | refine Two_intro ?_ ?_ | (refine leK_lit ?_; (simp [-List.getD_eq_getElem?_getD, LeL, lk, *]; done)) | (refine leK_dd ?_; (simp [-List.getD_eq_getElem?_getD, LeS, LeL, lk, *]; done)) | (simp only [Fact, Bool.not_eq_true', Bool.not_eq_false', decide_eq_true_eq, decide_eq_false_iff_not] at *; refine leK_dd ?_; (simp [-List.getD_eq_getElem?_getD, LeS, LeL, lk, *]; done)) | (show (_ : Nat) ≤ _; omega)) <;> (try simp (disch := omega) only [*, ↓Ed, Eu, ↓reduceIte, reduceCtorEq, Nat.reduceAdd, Nat.reduceEqDiff, Nat.reduceLT, Nat.reduceLeDiff, Int.reduceToNat, Int.reduceEq, Int.reduceLT, Int.reduceLE, gdS, rc_nil, rc_cons, pc_nil, pc_cons, psC, w64, List.length_append, List.length_map, Nat.mul_one, beq_self_eq_true, Lim.cs, PathC.cs, RuleC.cs, gdP, gdR]))
    exact ro_mk (by simp [LeL, lk, resR, arR]) dom1
  have f1 : Fact (decide ((w.length : Int) = 2) = true) := by simp only [Fact, Bool.not_eq_true', Bool.not_eq_false', decide_eq_true_eq, decide_eq_false_iff_not]; omega
  have g1 : 2 ≤ w.length := by omega
  rw [if_neg (by omega)]
  clear h1
  have h2 := p_gMay (w.getD 1 []) (by omega)
  cases h3 : mayG (w.getD 1 []) with
  | false =>
    rw [h3] at h2
    rw [if_pos rfl]
    clear h3
    simp only [c_conf_parser_rule, ↓Ed, Eu, ↓reduceIte, reduceCtorEq, Nat.reduceAdd, Nat.reduceEqDiff, Nat.reduceLT, Nat.reduceLeDiff, Int.reduceToNat, Int.reduceEq, Int.reduceLT, Int.reduceLE, gdS, rc_nil, rc_cons, pc_nil, pc_cons, psC, w64, List.length_append, List.length_map, Nat.mul_one, beq_self_eq_true, Lim.cs, PathC.cs, RuleC.cs, gdP, gdR]
    repeat' ((first | refine CallO_pure (h2) ?_ | refine NewB_intro0 (fun b => ?_) | (refine NewB_intro (fun b hb => ?_); simp only [ln_cons2, ln_nil, and_true] at hb) | (with_reducible apply And.intro; (focus (first | omega | (simp only [Fact, Bool.not_eq_true', Bool.not_eq_false', decide_eq_true_eq, decide_eq_false_iff_not] at *; omega)))) | ((first | refine gW_sp ?_ | refine condW_sp ?_ | refine pickW_sp ?_); (try refine Sp_n ?_); (first | refine Sp_t (by assumption) ?_ | refine Sp_f (by assumption) ?_ | refine Sp_split (fun h => ?_) (fun h => ?_)) <;> (first | have h' := Fact_lt h | have h' := Fact_nlt h | have h' := Fact_le h | have h' := Fact_nle h | skip) <;> (try (exfalso; omega))) | refine TreeW_intro (by rfl) ?_ | refine TreeW_all ?_ | refine upQ_intro ?_ | refine Two_intro ?_ ?_ | (refine leK_lit ?_; (simp [-List.getD_eq_getElem?_getD, LeL, lk, *]; done)) | (refine leK_dd ?_; (simp [-List.getD_eq_getElem?_getD, LeS, LeL, lk, *]; done)) | (simp only [Fact, Bool.not_eq_true', Bool.not_eq_false', decide_eq_true_eq, decide_eq_false_iff_not] at *; refine leK_dd ?_; (simp [-List.getD_eq_getElem?_getD, LeS, LeL, lk, *]; done)) | (show (_ : Nat) ≤ _; omega)) <;> (try simp (disch := omega) only [*, ↓Ed, Eu, ↓reduceIte, reduceCtorEq, Nat.reduceAdd, Nat.reduceEqDiff, Nat.reduceLT, Nat.reduceLeDiff, Int.reduceToNat, Int.reduceEq, Int.reduceLT, Int.reduceLE, gdS, rc_nil, rc_cons, pc_nil, pc_cons, psC, w64, List.length_append, List.length_map, Nat.mul_one, beq_self_eq_true, Lim.cs, PathC.cs, RuleC.cs, gdP, gdR]))
    exact ro_mk (by simp [LeL, lk, resR, arR]) dom1
  | true =>
  rw [h3] at h2
  rw [if_neg (by decide)]
  clear h3
  obtain ⟨⟨ca, cb, cla, clb, cps, crs, civ⟩, xa, xb, xi⟩ := x
  simp only at hr ⊢
  cases crs with
  | nil =>
    rw [if_neg (by simp)]
    have f2 : Fact (decide (((0 : Nat) : Int) = 32) = false) := by simp [Fact]
    simp only [c_conf_parser_rule, ↓Ed, Eu, ↓reduceIte, reduceCtorEq, Nat.reduceAdd, Nat.reduceEqDiff, Nat.reduceLT, Nat.reduceLeDiff, Int.reduceToNat, Int.reduceEq, Int.reduceLT, Int.reduceLE, gdS, rc_nil, rc_cons, pc_nil, pc_cons, psC, w64, List.length_append, List.length_map, Nat.mul_one, beq_self_eq_true, Lim.cs, PathC.cs, RuleC.cs, gdP, gdR]
    repeat' ((first | refine CallO_pure (h2) ?_ | refine CallW_intro (p_Clone _ (by omega)) ?_ | refine NewB_intro0 (fun b => ?_) | (refine NewB_intro (fun b hb => ?_); simp only [ln_cons2, ln_nil, and_true] at hb) | (with_reducible apply And.intro; (focus (first | omega | (simp only [Fact, Bool.not_eq_true', Bool.not_eq_false', decide_eq_true_eq, decide_eq_false_iff_not] at *; omega)))) | ((first | refine gW_sp ?_ | refine condW_sp ?_ | refine pickW_sp ?_); (try refine Sp_n ?_); (first | refine Sp_t (by assumption) ?_ | refine Sp_f (by assumption) ?_ | refine Sp_split (fun h => ?_) (fun h => ?_)) <;> (first | have h' := Fact_lt h | have h' := Fact_nlt h | have h' := Fact_le h | have h' := Fact_nle h | skip) <;> (try (exfalso; omega))) | refine TreeW_intro (by rfl) ?_ | refine TreeW_all ?_ | refine upQ_intro ?_ | refine Two_intro ?_ ?_ | (refine leK_lit ?_; (simp [-List.getD_eq_getElem?_getD, LeL, lk, *]; done)) | (refine leK_dd ?_; (simp [-List.getD_eq_getElem?_getD, LeS, LeL, lk, *]; done)) | (simp only [Fact, Bool.not_eq_true', Bool.not_eq_false', decide_eq_true_eq, decide_eq_false_iff_not] at *; refine leK_dd ?_; (simp [-List.getD_eq_getElem?_getD, LeS, LeL, lk, *]; done)) | (show (_ : Nat) ≤ _; omega)) <;> (try simp (disch := omega) only [*, ↓Ed, Eu, ↓reduceIte, reduceCtorEq, Nat.reduceAdd, Nat.reduceEqDiff, Nat.reduceLT, Nat.reduceLeDiff, Int.reduceToNat, Int.reduceEq, Int.reduceLT, Int.reduceLE, gdS, rc_nil, rc_cons, pc_nil, pc_cons, psC, w64, List.length_append, List.length_map, Nat.mul_one, beq_self_eq_true, Lim.cs, PathC.cs, RuleC.cs, gdP, gdR]))
    all_goals exact ro_mk (by simp [LeL, lk, resR, arR, rc_cons, rls]) dom1
  | cons r0 rs =>
    have hr2 : rs.length ≤ 31 := by simpa using hr
    by_cases h4 : (r0 :: rs).length = 32
    · rw [if_pos h4]
      have f2 : Fact (decide (((rs.length + 1 : Nat) : Int) = 32) = true) := by simp only [Fact, Bool.not_eq_true', Bool.not_eq_false', decide_eq_true_eq, decide_eq_false_iff_not]; simp only [List.length_cons] at h4; omega
      clear h4
      simp only [c_conf_parser_rule, ↓Ed, Eu, ↓reduceIte, reduceCtorEq, Nat.reduceAdd, Nat.reduceEqDiff, Nat.reduceLT, Nat.reduceLeDiff, Int.reduceToNat, Int.reduceEq, Int.reduceLT, Int.reduceLE, gdS, rc_nil, rc_cons, pc_nil, pc_cons, psC, w64, List.length_append, List.length_map, Nat.mul_one, beq_self_eq_true, Lim.cs, PathC.cs, RuleC.cs, gdP, gdR]
      repeat' ((first | refine CallO_pure (h2) ?_ | refine CallW_intro (p_Clone _ (by omega)) ?_ | refine NewB_intro0 (fun b => ?_) | (refine NewB_intro (fun b hb => ?_); simp only [ln_cons2, ln_nil, and_true] at hb) | (with_reducible apply And.intro; (focus (first | omega | (simp only [Fact, Bool.not_eq_true', Bool.not_eq_false', decide_eq_true_eq, decide_eq_false_iff_not] at *; omega)))) | ((first | refine gW_sp ?_ | refine condW_sp ?_ | refine pickW_sp ?_); (try refine Sp_n ?_); (first | refine Sp_t (by assumption) ?_ | refine Sp_f (by assumption) ?_ | refine Sp_split (fun h => ?_) (fun h => ?_)) <;> (first | have h' := Fact_lt h | have h' := Fact_nlt h | have h' := Fact_le h | have h' := Fact_nle h | skip) <;> (try (exfalso; omega))) | refine TreeW_intro (by rfl) ?_ | refine TreeW_all ?_ | refine upQ_intro ?_ | refine Two_intro ?_ ?_ | (refine leK_lit ?_; (simp [-List.getD_eq_getElem?_getD, LeL, lk, *]; done)) | (refine leK_dd ?_; (simp [-List.getD_eq_getElem?_getD, LeS, LeL, lk, *]; done)) | (simp only [Fact, Bool.not_eq_true', Bool.not_eq_false', decide_eq_true_eq, decide_eq_false_iff_not] at *; refine leK_dd ?_; (simp [-List.getD_eq_getElem?_getD, LeS, LeL, lk, *]; done)) | (show (_ : Nat) ≤ _; omega)) <;> (try simp (disch := omega) only [*, ↓Ed, Eu, ↓reduceIte, reduceCtorEq, Nat.reduceAdd, Nat.reduceEqDiff, Nat.reduceLT, Nat.reduceLeDiff, Int.reduceToNat, Int.reduceEq, Int.reduceLT, Int.reduceLE, gdS, rc_nil, rc_cons, pc_nil, pc_cons, psC, w64, List.length_append, List.length_map, Nat.mul_one, beq_self_eq_true, Lim.cs, PathC.cs, RuleC.cs, gdP, gdR]))
      all_goals exact ro_mk (by simp [LeL, lk, resR, arR, rc_cons, rls]) dom1
    · rw [if_neg h4]
      have f2 : Fact (decide (((rs.length + 1 : Nat) : Int) = 32) = false) := by simp only [Fact, Bool.not_eq_true', Bool.not_eq_false', decide_eq_true_eq, decide_eq_false_iff_not]; simp only [List.length_cons] at h4; omega
      clear h4
      simp only [c_conf_parser_rule, ↓Ed, Eu, ↓reduceIte, reduceCtorEq, Nat.reduceAdd, Nat.reduceEqDiff, Nat.reduceLT, Nat.reduceLeDiff, Int.reduceToNat, Int.reduceEq, Int.reduceLT, Int.reduceLE, gdS, rc_nil, rc_cons, pc_nil, pc_cons, psC, w64, List.length_append, List.length_map, Nat.mul_one, beq_self_eq_true, Lim.cs, PathC.cs, RuleC.cs, gdP, gdR]
      repeat' ((first | refine CallO_pure (h2) ?_ | refine CallW_intro (p_Clone _ (by omega)) ?_ | refine NewB_intro0 (fun b => ?_) | (refine NewB_intro (fun b hb => ?_); simp only [ln_cons2, ln_nil, and_true] at hb) | (with_reducible apply And.intro; (focus (first | omega | (simp only [Fact, Bool.not_eq_true', Bool.not_eq_false', decide_eq_true_eq, decide_eq_false_iff_not] at *; omega)))) | ((first | refine gW_sp ?_ | refine condW_sp ?_ | refine pickW_sp ?_); (try refine Sp_n ?_); (first | refine Sp_t (by assumption) ?_ | refine Sp_f (by assumption) ?_ | refine Sp_split (fun h => ?_) (fun h => ?_)) <;> (first | have h' := Fact_lt h | have h' := Fact_nlt h | have h' := Fact_le h | have h' := Fact_nle h | skip) <;> (try (exfalso; omega))) | refine TreeW_intro (by rfl) ?_ | refine TreeW_all ?_ | refine upQ_intro ?_ | refine Two_intro ?_ ?_ | (refine leK_lit ?_; (simp [-List.getD_eq_getElem?_getD, LeL, lk, *]; done)) | (refine leK_dd ?_; (simp [-List.getD_eq_getElem?_getD, LeS, LeL, lk, *]; done)) | (simp only [Fact, Bool.not_eq_true', Bool.not_eq_false', decide_eq_true_eq, decide_eq_false_iff_not] at *; refine leK_dd ?_; (simp [-List.getD_eq_getElem?_getD, LeS, LeL, lk, *]; done)) | (show (_ : Nat) ≤ _; omega)) <;> (try simp (disch := omega) only [*, ↓Ed, Eu, ↓reduceIte, reduceCtorEq, Nat.reduceAdd, Nat.reduceEqDiff, Nat.reduceLT, Nat.reduceLeDiff, Int.reduceToNat, Int.reduceEq, Int.reduceLT, Int.reduceLE, gdS, rc_nil, rc_cons, pc_nil, pc_cons, psC, w64, List.length_append, List.length_map, Nat.mul_one, beq_self_eq_true, Lim.cs, PathC.cs, RuleC.cs, gdP, gdR]))
      all_goals exact ro_mk (by simp [LeL, lk, resR, arR, rc_cons, rls]) dom1
end Go.Proofs.YtbjmcmgekcmbpaaGreatDoor
