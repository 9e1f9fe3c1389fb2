import Derived.Test.YtbjmcmgekcmbpaaDoorK17
/- chapter 21: the document's state: chain -/
namespace Go.Proofs.YtbjmcmgekcmbpaaDoor
set_option linter.all false
open Go.RowKit
set_option maxRecDepth 100000
theorem gdL0 {α : Type} (a d : α) (l : List α) : (a :: l).getD 0 d = a := rfl
theorem gdL1 {α : Type} (a b d : α) (l : List α) : (a :: b :: l).getD 1 d = b := rfl
theorem gdL2 {α : Type} (a b c d : α) (l : List α) : (a :: b :: c :: l).getD 2 d = c := rfl
theorem nums3 {w : List (List UInt8)} (hw : ∀ i, (w.getD i []).length ≤ 1000) (h : numsC w) : CP Tryd.prog 51 [.sl none 1 [[.str (w.getD 4 [])], [.str (w.getD 6 [])], [.str (w.getD 8 [])]]]
    (.tup [.sl none 1 [[.int .i64 (numP (w.getD 4 [])).1], [.int .i64 (numP (w.getD 6 [])).1], [.int .i64 (numP (w.getD 8 [])).1]], .bool true]) := by
  have := p_numbers none [w.getD 4 [], w.getD 6 [], w.getD 8 []] (by simp) (fun i => by
    rcases i with _ | _ | _ | i
    · exact hw 4
    · exact hw 6
    · exact hw 8
    · simp)
  have e : okN [w.getD 4 [], w.getD 6 [], w.getD 8 []] = true := by
    simp only [okN, List.all_cons, List.all_nil, h.1, h.2.1, h.2.2, decide_true, Bool.and_self]
  rw [e] at this
  exact this
theorem nums3f {w : List (List UInt8)} (hw : ∀ i, (w.getD i []).length ≤ 1000) (h : ¬ numsC w) : CP Tryd.prog 51 [.sl none 1 [[.str (w.getD 4 [])], [.str (w.getD 6 [])], [.str (w.getD 8 [])]]] (.tup [.sl none 1 [], .bool false]) := by
  have := p_numbers none [w.getD 4 [], w.getD 6 [], w.getD 8 []] (by simp) (fun i => by
    rcases i with _ | _ | _ | i
    · exact hw 4
    · exact hw 6
    · exact hw 8
    · simp)
  have e : okN [w.getD 4 [], w.getD 6 [], w.getD 8 []] = false := by
    apply Bool.eq_false_iff.2
    intro g
    simp only [okN, List.all_cons, List.all_nil, Bool.and_eq_true, decide_eq_true_eq, and_true] at g
    exact h ⟨g.1, g.2.1, g.2.2⟩
  rw [e] at this
  exact this
set_option maxHeartbeats 16000000 in
theorem p_schain (b : Nat) (x : PS) (w : List (List UInt8)) (hw : ∀ i, (w.getD i []).length ≤ 1000) (hl : w.length ≤ 1000) :
    CT Tryd.prog 48 [.ptr b 0, .sl none 1 (strs w)] (lk [(b, psC x)]) (fun r o => r = .int .i64 (chainQ x w).2 ∧ o = lk [(b, psC (chainQ x w).1)]) := by
  have hm : maxLen = 9223372036854775807 := rfl
  have hw2 := hw 2
  refine okt_ligref20_state_chain _ _ _ (by simp) ?_
  by_cases h1 : w.length = 9
  rotate_left
  · rw [chain_form (fun g => h1 g.1)]
    have f1 : Fact (decide ((w.length : Int) = 9) = false) := by simp only [Fact, Bool.not_eq_true', Bool.not_eq_false', decide_eq_true_eq, decide_eq_false_iff_not]; omega
    clear h1
    simp only [c_ligref20_state_chain, ↓Ed, Eu, ↓reduceIte, reduceCtorEq, Nat.reduceAdd, Nat.reduceEqDiff, Nat.reduceLT, Nat.reduceLeDiff, Int.reduceToNat, Int.reduceEq, Int.reduceLT, Int.reduceLE, gdL0, gdL1, gdL2, gdS, al_pc, al_rc, rc_nil, rc_cons, pc_nil, pc_cons, psC, w64, List.length_append, List.length_map, Nat.mul_one, beq_self_eq_true, PathC.cs, RuleC.cs, gdP, gdR]
    repeat' ((first | refine NewB_intro0 (fun b => ?_) | (refine NewB_intro (fun b hb => ?_); simp only [ln_cons2, ln_nil, and_true] at hb) | (with_reducible apply And.intro; (focus (first | omega | (simp only [Fact, Bool.not_eq_true', Bool.not_eq_false', decide_eq_true_eq, decide_eq_false_iff_not] at *; omega)))) | ((first | refine gW_sp ?_ | refine condW_sp ?_ | refine pickW_sp ?_); (try refine Sp_n ?_); (first | refine Sp_t (by assumption) ?_ | refine Sp_f (by assumption) ?_ | refine Sp_split (fun h => ?_) (fun h => ?_)) <;> (first | have h' := Fact_lt h | have h' := Fact_nlt h | have h' := Fact_le h | have h' := Fact_nle h | skip) <;> (try (exfalso; omega))) | refine TreeW_intro (by rfl) ?_ | refine TreeW_all ?_ | refine upQ_intro ?_ | refine Two_intro ?_ ?_ | (refine leK_lit ?_; (simp [-List.getD_eq_getElem?_getD, LeL, lk, *]; done)) | (refine leK_dd ?_; (simp [-List.getD_eq_getElem?_getD, LeS, LeL, lk, *]; done)) | (simp only [Fact, Bool.not_eq_true', Bool.not_eq_false', decide_eq_true_eq, decide_eq_false_iff_not] at *; refine leK_dd ?_; (simp [-List.getD_eq_getElem?_getD, LeS, LeL, lk, *]; done)) | (show (_ : Nat) ≤ _; omega)) <;> (try simp (disch := omega) only [*, ↓Ed, Eu, ↓reduceIte, reduceCtorEq, Nat.reduceAdd, Nat.reduceEqDiff, Nat.reduceLT, Nat.reduceLeDiff, Int.reduceToNat, Int.reduceEq, Int.reduceLT, Int.reduceLE, gdL0, gdL1, gdL2, gdS, al_pc, al_rc, rc_nil, rc_cons, pc_nil, pc_cons, psC, w64, List.length_append, List.length_map, Nat.mul_one, beq_self_eq_true, PathC.cs, RuleC.cs, gdP, gdR]))
    exact ro_mk (by simp [LeL, lk, resR, arR]) dom1
  have f1 : Fact (decide ((w.length : Int) = 9) = true) := by simp only [Fact, Bool.not_eq_true', Bool.not_eq_false', decide_eq_true_eq, decide_eq_false_iff_not]; omega
  have g1 : 9 ≤ w.length := by omega
  have n1 := fun h : numsC w => nums3 hw h
  have n2 := fun h : ¬ numsC w => nums3f hw h
  by_cases h2 : formC w
  rotate_left
  · rw [chain_form h2]
    have h3 : ¬ ((w.getD 1 [] = [97] ∨ w.getD 1 [] = [98]) ∧ w.getD 3 [] = [103, 97, 115] ∧ w.getD 5 [] = [98, 121, 116, 101, 115] ∧ w.getD 7 [] = [99, 111, 117, 110, 116]) := fun g => h2 ⟨h1, g⟩
    have h4 : Fact (¬ ((w.getD 1 [] = [97] ∨ w.getD 1 [] = [98]) ∧ w.getD 3 [] = [103, 97, 115] ∧ w.getD 5 [] = [98, 121, 116, 101, 115] ∧ w.getD 7 [] = [99, 111, 117, 110, 116])) := h3
    clear h1 h2 h3 n1 n2
    simp only [c_ligref20_state_chain, ↓Ed, Eu, ↓reduceIte, reduceCtorEq, Nat.reduceAdd, Nat.reduceEqDiff, Nat.reduceLT, Nat.reduceLeDiff, Int.reduceToNat, Int.reduceEq, Int.reduceLT, Int.reduceLE, gdL0, gdL1, gdL2, gdS, al_pc, al_rc, rc_nil, rc_cons, pc_nil, pc_cons, psC, w64, List.length_append, List.length_map, Nat.mul_one, beq_self_eq_true, PathC.cs, RuleC.cs, gdP, gdR]
    repeat' ((first | refine NewB_intro0 (fun b => ?_) | (refine NewB_intro (fun b hb => ?_); simp only [ln_cons2, ln_nil, and_true] at hb) | (with_reducible apply And.intro; (focus (first | omega | (simp only [Fact, Bool.not_eq_true', Bool.not_eq_false', decide_eq_true_eq, decide_eq_false_iff_not] at *; omega)))) | ((first | refine gW_sp ?_ | refine condW_sp ?_ | refine pickW_sp ?_); (try refine Sp_n ?_); (first | refine Sp_t (by assumption) ?_ | refine Sp_f (by assumption) ?_ | refine Sp_split (fun h => ?_) (fun h => ?_)) <;> (first | have h' := Fact_lt h | have h' := Fact_nlt h | have h' := Fact_le h | have h' := Fact_nle h | skip) <;> (try (exfalso; omega))) | refine TreeW_intro (by rfl) ?_ | refine TreeW_all ?_ | refine upQ_intro ?_ | refine Two_intro ?_ ?_ | (refine leK_lit ?_; (simp [-List.getD_eq_getElem?_getD, LeL, lk, *]; done)) | (refine leK_dd ?_; (simp [-List.getD_eq_getElem?_getD, LeS, LeL, lk, *]; done)) | (simp only [Fact, Bool.not_eq_true', Bool.not_eq_false', decide_eq_true_eq, decide_eq_false_iff_not] at *; refine leK_dd ?_; (simp [-List.getD_eq_getElem?_getD, LeS, LeL, lk, *]; done)) | (show (_ : Nat) ≤ _; omega)) <;> (try simp (disch := omega) only [*, ↓Ed, Eu, ↓reduceIte, reduceCtorEq, Nat.reduceAdd, Nat.reduceEqDiff, Nat.reduceLT, Nat.reduceLeDiff, Int.reduceToNat, Int.reduceEq, Int.reduceLT, Int.reduceLE, gdL0, gdL1, gdL2, gdS, al_pc, al_rc, rc_nil, rc_cons, pc_nil, pc_cons, psC, w64, List.length_append, List.length_map, Nat.mul_one, beq_self_eq_true, PathC.cs, RuleC.cs, gdP, gdR]))
    all_goals first
      | exact ro_mk (by simp [LeL, lk, resR, arR]) dom1
      | (exfalso; simp only [Fact, Bool.not_eq_true', Bool.not_eq_false', decide_eq_true_eq, decide_eq_false_iff_not] at *; simp_all; done)
  have f3 : Fact (decide (w.getD 3 [] = [103, 97, 115]) = true) := decide_eq_true h2.2.2.1
  have f4 : Fact (decide (w.getD 5 [] = [98, 121, 116, 101, 115]) = true) := decide_eq_true h2.2.2.2.1
  have f5 : Fact (decide (w.getD 7 [] = [99, 111, 117, 110, 116]) = true) := decide_eq_true h2.2.2.2.2
  have f2 : Fact (decide (w.getD 1 [] = [97]) = true) ∨ Fact (decide (w.getD 1 [] = [97]) = false) ∧ Fact (decide (w.getD 1 [] = [98]) = true) := by
    simp only [Fact, Bool.not_eq_true', Bool.not_eq_false', decide_eq_true_eq, decide_eq_false_iff_not]
    by_cases g : w.getD 1 [] = [97]
    · exact .inl g
    · exact .inr ⟨g, h2.2.1.resolve_left g⟩
  have hF : Fact (formC w) := h2
  clear h1 h2
  have hN := p_rName (w.getD 2 []) (by omega)
  have hL := p_mayLimits (limW w)
  by_cases hn : numsC w
  rotate_left
  · rw [chain_nums hn]
    have n3 := n2 hn
    clear n1 n2 hn hN hL
    rcases f2 with f2 | ⟨f2, f2'⟩
    all_goals simp only [c_ligref20_state_chain, ↓Ed, Eu, ↓reduceIte, reduceCtorEq, Nat.reduceAdd, Nat.reduceEqDiff, Nat.reduceLT, Nat.reduceLeDiff, Int.reduceToNat, Int.reduceEq, Int.reduceLT, Int.reduceLE, gdL0, gdL1, gdL2, gdS, al_pc, al_rc, rc_nil, rc_cons, pc_nil, pc_cons, psC, w64, List.length_append, List.length_map, Nat.mul_one, beq_self_eq_true, PathC.cs, RuleC.cs, gdP, gdR]
    all_goals repeat' ((first | refine CallW_intro (n3) ?_ | refine NewB_intro0 (fun b => ?_) | (refine NewB_intro (fun b hb => ?_); simp only [ln_cons2, ln_nil, and_true] at hb) | (with_reducible apply And.intro; (focus (first | omega | (simp only [Fact, Bool.not_eq_true', Bool.not_eq_false', decide_eq_true_eq, decide_eq_false_iff_not] at *; omega)))) | ((first | refine gW_sp ?_ | refine condW_sp ?_ | refine pickW_sp ?_); (try refine Sp_n ?_); (first | refine Sp_t (by assumption) ?_ | refine Sp_f (by assumption) ?_ | refine Sp_split (fun h => ?_) (fun h => ?_)) <;> (first | have h' := Fact_lt h | have h' := Fact_nlt h | have h' := Fact_le h | have h' := Fact_nle h | skip) <;> (try (exfalso; omega))) | refine TreeW_intro (by rfl) ?_ | refine TreeW_all ?_ | refine upQ_intro ?_ | refine Two_intro ?_ ?_ | (refine leK_lit ?_; (simp [-List.getD_eq_getElem?_getD, LeL, lk, *]; done)) | (refine leK_dd ?_; (simp [-List.getD_eq_getElem?_getD, LeS, LeL, lk, *]; done)) | (simp only [Fact, Bool.not_eq_true', Bool.not_eq_false', decide_eq_true_eq, decide_eq_false_iff_not] at *; refine leK_dd ?_; (simp [-List.getD_eq_getElem?_getD, LeS, LeL, lk, *]; done)) | (show (_ : Nat) ≤ _; omega)) <;> (try simp (disch := omega) only [*, ↓Ed, Eu, ↓reduceIte, reduceCtorEq, Nat.reduceAdd, Nat.reduceEqDiff, Nat.reduceLT, Nat.reduceLeDiff, Int.reduceToNat, Int.reduceEq, Int.reduceLT, Int.reduceLE, gdL0, gdL1, gdL2, gdS, al_pc, al_rc, rc_nil, rc_cons, pc_nil, pc_cons, psC, w64, List.length_append, List.length_map, Nat.mul_one, beq_self_eq_true, PathC.cs, RuleC.cs, gdP, gdR]))
    all_goals exact ro_mk (by simp [LeL, lk, resR, arR]) dom1
  have n3 := n1 hn
  unfold chainQ
  rw [if_neg (fun g => g hF), if_neg (fun g => g hn)]
  clear n1 n2 hn hF
  cases h2 : nameP (w.getD 2 []) with
  | false =>
    rw [h2] at hN
    rw [if_pos rfl]
    clear h2 hL
    rcases f2 with f2 | ⟨f2, f2'⟩
    all_goals simp only [c_ligref20_state_chain, ↓Ed, Eu, ↓reduceIte, reduceCtorEq, Nat.reduceAdd, Nat.reduceEqDiff, Nat.reduceLT, Nat.reduceLeDiff, Int.reduceToNat, Int.reduceEq, Int.reduceLT, Int.reduceLE, gdL0, gdL1, gdL2, gdS, al_pc, al_rc, rc_nil, rc_cons, pc_nil, pc_cons, psC, w64, List.length_append, List.length_map, Nat.mul_one, beq_self_eq_true, PathC.cs, RuleC.cs, gdP, gdR]
    all_goals repeat' ((first | refine CallW_intro (n3) ?_ | refine CallO_pure (hN) ?_ | refine NewB_intro0 (fun b => ?_) | (refine NewB_intro (fun b hb => ?_); simp only [ln_cons2, ln_nil, and_true] at hb) | (with_reducible apply And.intro; (focus (first | omega | (simp only [Fact, Bool.not_eq_true', Bool.not_eq_false', decide_eq_true_eq, decide_eq_false_iff_not] at *; omega)))) | ((first | refine gW_sp ?_ | refine condW_sp ?_ | refine pickW_sp ?_); (try refine Sp_n ?_); (first | refine Sp_t (by assumption) ?_ | refine Sp_f (by assumption) ?_ | refine Sp_split (fun h => ?_) (fun h => ?_)) <;> (first | have h' := Fact_lt h | have h' := Fact_nlt h | have h' := Fact_le h | have h' := Fact_nle h | skip) <;> (try (exfalso; omega))) | refine TreeW_intro (by rfl) ?_ | refine TreeW_all ?_ | refine upQ_intro ?_ | refine Two_intro ?_ ?_ | (refine leK_lit ?_; (simp [-List.getD_eq_getElem?_getD, LeL, lk, *]; done)) | (refine leK_dd ?_; (simp [-List.getD_eq_getElem?_getD, LeS, LeL, lk, *]; done)) | (simp only [Fact, Bool.not_eq_true', Bool.not_eq_false', decide_eq_true_eq, decide_eq_false_iff_not] at *; refine leK_dd ?_; (simp [-List.getD_eq_getElem?_getD, LeS, LeL, lk, *]; done)) | (show (_ : Nat) ≤ _; omega)) <;> (try simp (disch := omega) only [*, ↓Ed, Eu, ↓reduceIte, reduceCtorEq, Nat.reduceAdd, Nat.reduceEqDiff, Nat.reduceLT, Nat.reduceLeDiff, Int.reduceToNat, Int.reduceEq, Int.reduceLT, Int.reduceLE, gdL0, gdL1, gdL2, gdS, al_pc, al_rc, rc_nil, rc_cons, pc_nil, pc_cons, psC, w64, List.length_append, List.length_map, Nat.mul_one, beq_self_eq_true, PathC.cs, RuleC.cs, gdP, gdR]))
    all_goals exact ro_mk (by simp [LeL, lk, resR, arR]) dom1
  | true =>
  rw [h2] at hN
  rw [if_neg (by decide)]
  clear h2
  by_cases h3 : limQ (limW w)
  rotate_left
  · rw [if_pos h3]
    rw [decide_eq_false h3] at hL
    clear h3
    rcases f2 with f2 | ⟨f2, f2'⟩
    all_goals simp only [c_ligref20_state_chain, ↓Ed, Eu, ↓reduceIte, reduceCtorEq, Nat.reduceAdd, Nat.reduceEqDiff, Nat.reduceLT, Nat.reduceLeDiff, Int.reduceToNat, Int.reduceEq, Int.reduceLT, Int.reduceLE, gdL0, gdL1, gdL2, gdS, al_pc, al_rc, rc_nil, rc_cons, pc_nil, pc_cons, psC, w64, List.length_append, List.length_map, Nat.mul_one, beq_self_eq_true, PathC.cs, RuleC.cs, gdP, gdR]
    all_goals repeat' ((first | refine CallW_intro (n3) ?_ | refine CallO_pure (hN) ?_ | refine CallO_pure (hL) ?_ | refine NewB_intro0 (fun b => ?_) | (refine NewB_intro (fun b hb => ?_); simp only [ln_cons2, ln_nil, and_true] at hb) | (with_reducible apply And.intro; (focus (first | omega | (simp only [Fact, Bool.not_eq_true', Bool.not_eq_false', decide_eq_true_eq, decide_eq_false_iff_not] at *; omega)))) | ((first | refine gW_sp ?_ | refine condW_sp ?_ | refine pickW_sp ?_); (try refine Sp_n ?_); (first | refine Sp_t (by assumption) ?_ | refine Sp_f (by assumption) ?_ | refine Sp_split (fun h => ?_) (fun h => ?_)) <;> (first | have h' := Fact_lt h | have h' := Fact_nlt h | have h' := Fact_le h | have h' := Fact_nle h | skip) <;> (try (exfalso; omega))) | refine TreeW_intro (by rfl) ?_ | refine TreeW_all ?_ | refine upQ_intro ?_ | refine Two_intro ?_ ?_ | (refine leK_lit ?_; (simp [-List.getD_eq_getElem?_getD, LeL, lk, *]; done)) | (refine leK_dd ?_; (simp [-List.getD_eq_getElem?_getD, LeS, LeL, lk, *]; done)) | (simp only [Fact, Bool.not_eq_true', Bool.not_eq_false', decide_eq_true_eq, decide_eq_false_iff_not] at *; refine leK_dd ?_; (simp [-List.getD_eq_getElem?_getD, LeS, LeL, lk, *]; done)) | (show (_ : Nat) ≤ _; omega)) <;> (try simp (disch := omega) only [*, ↓Ed, Eu, ↓reduceIte, reduceCtorEq, Nat.reduceAdd, Nat.reduceEqDiff, Nat.reduceLT, Nat.reduceLeDiff, Int.reduceToNat, Int.reduceEq, Int.reduceLT, Int.reduceLE, gdL0, gdL1, gdL2, gdS, al_pc, al_rc, rc_nil, rc_cons, pc_nil, pc_cons, psC, w64, List.length_append, List.length_map, Nat.mul_one, beq_self_eq_true, PathC.cs, RuleC.cs, gdP, gdR]))
    all_goals exact ro_mk (by simp [LeL, lk, resR, arR]) dom1
  rw [if_neg (by simpa using h3)]
  rw [decide_eq_true h3] at hL
  clear h3
  obtain ⟨⟨ca, cb, cla, clb, cps, crs, civ⟩, xa, xb, xi⟩ := x
  rcases f2 with f2 | ⟨f2, f2'⟩
  all_goals cases xa <;> cases xb
  all_goals simp only [c_ligref20_state_chain, ↓Ed, Eu, ↓reduceIte, reduceCtorEq, Nat.reduceAdd, Nat.reduceEqDiff, Nat.reduceLT, Nat.reduceLeDiff, Int.reduceToNat, Int.reduceEq, Int.reduceLT, Int.reduceLE, gdL0, gdL1, gdL2, gdS, al_pc, al_rc, rc_nil, rc_cons, pc_nil, pc_cons, psC, w64, List.length_append, List.length_map, Nat.mul_one, beq_self_eq_true, PathC.cs, RuleC.cs, gdP, gdR]
  all_goals repeat' ((first | refine CallW_intro (n3) ?_ | refine CallO_pure (hN) ?_ | refine CallO_pure (hL) ?_ | refine NewB_intro0 (fun b => ?_) | (refine NewB_intro (fun b hb => ?_); simp only [ln_cons2, ln_nil, and_true] at hb) | (with_reducible apply And.intro; (focus (first | omega | (simp only [Fact, Bool.not_eq_true', Bool.not_eq_false', decide_eq_true_eq, decide_eq_false_iff_not] at *; omega)))) | ((first | refine gW_sp ?_ | refine condW_sp ?_ | refine pickW_sp ?_); (try refine Sp_n ?_); (first | refine Sp_t (by assumption) ?_ | refine Sp_f (by assumption) ?_ | refine Sp_split (fun h => ?_) (fun h => ?_)) <;> (first | have h' := Fact_lt h | have h' := Fact_nlt h | have h' := Fact_le h | have h' := Fact_nle h | skip) <;> (try (exfalso; omega))) | refine TreeW_intro (by rfl) ?_ | refine TreeW_all ?_ | refine upQ_intro ?_ | refine Two_intro ?_ ?_ | (refine leK_lit ?_; (simp [-List.getD_eq_getElem?_getD, LeL, lk, *]; done)) | (refine leK_dd ?_; (simp [-List.getD_eq_getElem?_getD, LeS, LeL, lk, *]; done)) | (simp only [Fact, Bool.not_eq_true', Bool.not_eq_false', decide_eq_true_eq, decide_eq_false_iff_not] at *; refine leK_dd ?_; (simp [-List.getD_eq_getElem?_getD, LeS, LeL, lk, *]; done)) | (show (_ : Nat) ≤ _; omega)) <;> (try simp (disch := omega) only [*, ↓Ed, Eu, ↓reduceIte, reduceCtorEq, Nat.reduceAdd, Nat.reduceEqDiff, Nat.reduceLT, Nat.reduceLeDiff, Int.reduceToNat, Int.reduceEq, Int.reduceLT, Int.reduceLE, gdL0, gdL1, gdL2, gdS, al_pc, al_rc, rc_nil, rc_cons, pc_nil, pc_cons, psC, w64, List.length_append, List.length_map, Nat.mul_one, beq_self_eq_true, PathC.cs, RuleC.cs, gdP, gdR]))
  all_goals simp only [Fact, Bool.not_eq_true', Bool.not_eq_false', decide_eq_true_eq, decide_eq_false_iff_not] at *
  all_goals (try have hs := Ne.symm h)
  all_goals exact ro_mk (by simp [-List.getD_eq_getElem?_getD, LeL, lk, resR, arR, twiceC, limW, *]) dom1
end Go.Proofs.YtbjmcmgekcmbpaaDoor

/- chapter 21: the document's state: path -/
namespace Go.Proofs.YtbjmcmgekcmbpaaDoor
set_option linter.all false
open Go.RowKit
set_option maxRecDepth 100000
theorem path_apart {x : PS} {w : List (List UInt8)} (h1 : w.length = 4 ∧ (w.getD 3 [] = cOrd ∨ w.getD 3 [] = cUno)) (h2 : (parseP (w.getD 1 [])).2.2 = 0 ∧ (parseP (w.getD 2 [])).2.2 = 0) :
    pathQ x w = if apartP (pthW w) x.c.ps = false then (x, 8) else if x.c.ps.length = 6 then (x, 22) else (⟨⟨x.c.a, x.c.b, x.c.la, x.c.lb, x.c.ps ++ [pthW w], x.c.rs, x.c.iv⟩, x.ha, x.hb, x.hi⟩, 0) := by
  unfold pathQ
  rw [if_neg (fun g => g h1), if_neg (fun g => g h2)]
set_option maxHeartbeats 16000000 in
theorem p_spath (sb : Nat) (x : PS) (w : List (List UInt8)) (hw : ∀ i, (w.getD i []).length ≤ 1000) (hl : w.length ≤ 1000) (hr : x.c.ps.length ≤ 6) :
    CT Tryd.prog 49 [.ptr sb 0, .sl none 1 (strs w)] (lk [(sb, psC x)]) (fun r o => r = .int .i64 (pathQ x w).2 ∧ o = lk [(sb, psC (pathQ x w).1)]) := by
  have hm : maxLen = 9223372036854775807 := rfl
  have hw1 := hw 1
  have hw2 := hw 2
  refine okt_ligref20_state_path _ _ _ (by simp) ?_
  by_cases h1 : w.length = 4
  rotate_left
  · unfold pathQ
    rw [if_pos (by omega)]
    have f1 : Fact (decide ((w.length : Int) = 4) = false) := by simp only [Fact, Bool.not_eq_true', Bool.not_eq_false', decide_eq_true_eq, decide_eq_false_iff_not]; omega
    clear h1
    simp only [c_ligref20_state_path, ↓Ed, Eu, ↓reduceIte, reduceCtorEq, Nat.reduceAdd, Nat.reduceEqDiff, Nat.reduceLT, Nat.reduceLeDiff, Int.reduceToNat, Int.reduceEq, Int.reduceLT, Int.reduceLE, gdS, al_pc, al_rc, rc_nil, rc_cons, pc_nil, pc_cons, psC, w64, List.length_append, List.length_map, Nat.mul_one, beq_self_eq_true, PathC.cs, RuleC.cs, gdP, gdR]
    repeat' ((first | refine NewB_intro0 (fun b => ?_) | (refine NewB_intro (fun b hb => ?_); simp only [ln_cons2, ln_nil, and_true] at hb) | (with_reducible apply And.intro; (focus (first | omega | (simp only [Fact, Bool.not_eq_true', Bool.not_eq_false', decide_eq_true_eq, decide_eq_false_iff_not] at *; omega)))) | ((first | refine gW_sp ?_ | refine condW_sp ?_ | refine pickW_sp ?_); (try refine Sp_n ?_); (first | refine Sp_t (by assumption) ?_ | refine Sp_f (by assumption) ?_ | refine Sp_split (fun h => ?_) (fun h => ?_)) <;> (first | have h' := Fact_lt h | have h' := Fact_nlt h | have h' := Fact_le h | have h' := Fact_nle h | skip) <;> (try (exfalso; omega))) | refine TreeW_intro (by rfl) ?_ | refine TreeW_all ?_ | refine upQ_intro ?_ | refine Two_intro ?_ ?_ | (refine leK_lit ?_; (simp [-List.getD_eq_getElem?_getD, LeL, lk, *]; done)) | (refine leK_dd ?_; (simp [-List.getD_eq_getElem?_getD, LeS, LeL, lk, *]; done)) | (simp only [Fact, Bool.not_eq_true', Bool.not_eq_false', decide_eq_true_eq, decide_eq_false_iff_not] at *; refine leK_dd ?_; (simp [-List.getD_eq_getElem?_getD, LeS, LeL, lk, *]; done)) | (show (_ : Nat) ≤ _; omega)) <;> (try simp (disch := omega) only [*, ↓Ed, Eu, ↓reduceIte, reduceCtorEq, Nat.reduceAdd, Nat.reduceEqDiff, Nat.reduceLT, Nat.reduceLeDiff, Int.reduceToNat, Int.reduceEq, Int.reduceLT, Int.reduceLE, gdS, al_pc, al_rc, rc_nil, rc_cons, pc_nil, pc_cons, psC, w64, List.length_append, List.length_map, Nat.mul_one, beq_self_eq_true, PathC.cs, RuleC.cs, gdP, gdR]))
    exact ro_mk (by simp [LeL, lk, resR, arR]) dom1
  have f1 : Fact (decide ((w.length : Int) = 4) = true) := by simp only [Fact, Bool.not_eq_true', Bool.not_eq_false', decide_eq_true_eq, decide_eq_false_iff_not]; omega
  have g1 : 4 ≤ w.length := by omega
  by_cases h2 : w.getD 3 [] = cOrd ∨ w.getD 3 [] = cUno
  rotate_left
  · unfold pathQ
    rw [if_pos (by rintro ⟨_, g⟩; exact h2 g)]
    have f2 : Fact (decide (w.getD 3 [] = [111, 114, 100, 101, 114, 101, 100]) = false) := by simp only [Fact, Bool.not_eq_true', Bool.not_eq_false', decide_eq_true_eq, decide_eq_false_iff_not]; exact fun g => h2 (.inl g)
    have f3 : Fact (decide (w.getD 3 [] = [117, 110, 111, 114, 100, 101, 114, 101, 100]) = false) := by simp only [Fact, Bool.not_eq_true', Bool.not_eq_false', decide_eq_true_eq, decide_eq_false_iff_not]; exact fun g => h2 (.inr g)
    clear h1 h2
    simp only [c_ligref20_state_path, ↓Ed, Eu, ↓reduceIte, reduceCtorEq, Nat.reduceAdd, Nat.reduceEqDiff, Nat.reduceLT, Nat.reduceLeDiff, Int.reduceToNat, Int.reduceEq, Int.reduceLT, Int.reduceLE, gdS, al_pc, al_rc, rc_nil, rc_cons, pc_nil, pc_cons, psC, w64, List.length_append, List.length_map, Nat.mul_one, beq_self_eq_true, PathC.cs, RuleC.cs, gdP, gdR]
    repeat' ((first | refine NewB_intro0 (fun b => ?_) | (refine NewB_intro (fun b hb => ?_); simp only [ln_cons2, ln_nil, and_true] at hb) | (with_reducible apply And.intro; (focus (first | omega | (simp only [Fact, Bool.not_eq_true', Bool.not_eq_false', decide_eq_true_eq, decide_eq_false_iff_not] at *; omega)))) | ((first | refine gW_sp ?_ | refine condW_sp ?_ | refine pickW_sp ?_); (try refine Sp_n ?_); (first | refine Sp_t (by assumption) ?_ | refine Sp_f (by assumption) ?_ | refine Sp_split (fun h => ?_) (fun h => ?_)) <;> (first | have h' := Fact_lt h | have h' := Fact_nlt h | have h' := Fact_le h | have h' := Fact_nle h | skip) <;> (try (exfalso; omega))) | refine TreeW_intro (by rfl) ?_ | refine TreeW_all ?_ | refine upQ_intro ?_ | refine Two_intro ?_ ?_ | (refine leK_lit ?_; (simp [-List.getD_eq_getElem?_getD, LeL, lk, *]; done)) | (refine leK_dd ?_; (simp [-List.getD_eq_getElem?_getD, LeS, LeL, lk, *]; done)) | (simp only [Fact, Bool.not_eq_true', Bool.not_eq_false', decide_eq_true_eq, decide_eq_false_iff_not] at *; refine leK_dd ?_; (simp [-List.getD_eq_getElem?_getD, LeS, LeL, lk, *]; done)) | (show (_ : Nat) ≤ _; omega)) <;> (try simp (disch := omega) only [*, ↓Ed, Eu, ↓reduceIte, reduceCtorEq, Nat.reduceAdd, Nat.reduceEqDiff, Nat.reduceLT, Nat.reduceLeDiff, Int.reduceToNat, Int.reduceEq, Int.reduceLT, Int.reduceLE, gdS, al_pc, al_rc, rc_nil, rc_cons, pc_nil, pc_cons, psC, w64, List.length_append, List.length_map, Nat.mul_one, beq_self_eq_true, PathC.cs, RuleC.cs, gdP, gdR]))
    exact ro_mk (by simp [LeL, lk, resR, arR]) dom1
  have p1 := p_ParseEnd (w.getD 1 []) (by omega)
  have p2 := p_ParseEnd (w.getD 2 []) (by omega)
  have ep : pthW w = ⟨(parseP (w.getD 1 [])).1, (parseP (w.getD 1 [])).2.1, (parseP (w.getD 2 [])).1, (parseP (w.getD 2 [])).2.1, decide (w.getD 3 [] = cOrd)⟩ := rfl
  have hq := fun g => path_apart (x := x) ⟨h1, h2⟩ g
  have hq2 : ¬ ((parseP (w.getD 1 [])).2.2 = 0 ∧ (parseP (w.getD 2 [])).2.2 = 0) → pathQ x w = (x, 6) := fun g => by
    unfold pathQ
    rw [if_neg (fun g => g ⟨h1, h2⟩), if_pos g]
  rw [ep] at hq
  clear ep
  have f4 : Fact (decide (w.getD 3 [] = [111, 114, 100, 101, 114, 101, 100]) = true) ∨ Fact (decide (w.getD 3 [] = [111, 114, 100, 101, 114, 101, 100]) = false) ∧ Fact (decide (w.getD 3 [] = [117, 110, 111, 114, 100, 101, 114, 101, 100]) = true) := by
    simp only [Fact, Bool.not_eq_true', Bool.not_eq_false', decide_eq_true_eq, decide_eq_false_iff_not]
    by_cases g : w.getD 3 [] = [111, 114, 100, 101, 114, 101, 100]
    · exact .inl g
    · exact .inr ⟨g, h2.resolve_left g⟩
  clear h1 h2
  generalize parseP (w.getD 1 []) = q1 at p1 hq hq2
  generalize parseP (w.getD 2 []) = q2 at p2 hq hq2
  obtain ⟨qa, qc, qe⟩ := q1
  obtain ⟨ra, rc, re⟩ := q2
  simp only at p1 p2 hr hq hq2
  by_cases h4 : qe = 0
  rotate_left
  · rw [hq2 (fun g => h4 g.1)]
    have f5 : Fact (decide (qe = 0) = false) := decide_eq_false h4
    clear h4 hq hq2
    rcases f4 with f2 | ⟨f2, f3⟩
    all_goals simp only [c_ligref20_state_path, ↓Ed, Eu, ↓reduceIte, reduceCtorEq, Nat.reduceAdd, Nat.reduceEqDiff, Nat.reduceLT, Nat.reduceLeDiff, Int.reduceToNat, Int.reduceEq, Int.reduceLT, Int.reduceLE, gdS, al_pc, al_rc, rc_nil, rc_cons, pc_nil, pc_cons, psC, w64, List.length_append, List.length_map, Nat.mul_one, beq_self_eq_true, PathC.cs, RuleC.cs, gdP, gdR]
    all_goals repeat' ((first | refine CallO_pure (p1) ?_ | refine CallO_pure (p2) ?_ | refine CallW_intro (p1) ?_ | refine CallW_intro (p2) ?_ | refine NewB_intro0 (fun b => ?_) | (refine NewB_intro (fun b hb => ?_); simp only [ln_cons2, ln_nil, and_true] at hb) | (with_reducible apply And.intro; (focus (first | omega | (simp only [Fact, Bool.not_eq_true', Bool.not_eq_false', decide_eq_true_eq, decide_eq_false_iff_not] at *; omega)))) | ((first | refine gW_sp ?_ | refine condW_sp ?_ | refine pickW_sp ?_); (try refine Sp_n ?_); (first | refine Sp_t (by assumption) ?_ | refine Sp_f (by assumption) ?_ | refine Sp_split (fun h => ?_) (fun h => ?_)) <;> (first | have h' := Fact_lt h | have h' := Fact_nlt h | have h' := Fact_le h | have h' := Fact_nle h | skip) <;> (try (exfalso; omega))) | refine TreeW_intro (by rfl) ?_ | refine TreeW_all ?_ | refine upQ_intro ?_ | refine Two_intro ?_ ?_ | (refine leK_lit ?_; (simp [-List.getD_eq_getElem?_getD, LeL, lk, *]; done)) | (refine leK_dd ?_; (simp [-List.getD_eq_getElem?_getD, LeS, LeL, lk, *]; done)) | (simp only [Fact, Bool.not_eq_true', Bool.not_eq_false', decide_eq_true_eq, decide_eq_false_iff_not] at *; refine leK_dd ?_; (simp [-List.getD_eq_getElem?_getD, LeS, LeL, lk, *]; done)) | (show (_ : Nat) ≤ _; omega)) <;> (try simp (disch := omega) only [*, ↓Ed, Eu, ↓reduceIte, reduceCtorEq, Nat.reduceAdd, Nat.reduceEqDiff, Nat.reduceLT, Nat.reduceLeDiff, Int.reduceToNat, Int.reduceEq, Int.reduceLT, Int.reduceLE, gdS, al_pc, al_rc, rc_nil, rc_cons, pc_nil, pc_cons, psC, w64, List.length_append, List.length_map, Nat.mul_one, beq_self_eq_true, PathC.cs, RuleC.cs, gdP, gdR]))
    all_goals exact ro_mk (by simp [LeL, lk, resR, arR, pths, pc_cons]) dom1
  have f5 : Fact (decide (qe = 0) = true) := decide_eq_true h4
  by_cases h5 : re = 0
  rotate_left
  · rw [hq2 (fun g => h5 g.2)]
    have f6 : Fact (decide (re = 0) = false) := decide_eq_false h5
    clear h4 h5 hq hq2
    rcases f4 with f2 | ⟨f2, f3⟩
    all_goals simp only [c_ligref20_state_path, ↓Ed, Eu, ↓reduceIte, reduceCtorEq, Nat.reduceAdd, Nat.reduceEqDiff, Nat.reduceLT, Nat.reduceLeDiff, Int.reduceToNat, Int.reduceEq, Int.reduceLT, Int.reduceLE, gdS, al_pc, al_rc, rc_nil, rc_cons, pc_nil, pc_cons, psC, w64, List.length_append, List.length_map, Nat.mul_one, beq_self_eq_true, PathC.cs, RuleC.cs, gdP, gdR]
    all_goals repeat' ((first | refine CallO_pure (p1) ?_ | refine CallO_pure (p2) ?_ | refine CallW_intro (p1) ?_ | refine CallW_intro (p2) ?_ | refine NewB_intro0 (fun b => ?_) | (refine NewB_intro (fun b hb => ?_); simp only [ln_cons2, ln_nil, and_true] at hb) | (with_reducible apply And.intro; (focus (first | omega | (simp only [Fact, Bool.not_eq_true', Bool.not_eq_false', decide_eq_true_eq, decide_eq_false_iff_not] at *; omega)))) | ((first | refine gW_sp ?_ | refine condW_sp ?_ | refine pickW_sp ?_); (try refine Sp_n ?_); (first | refine Sp_t (by assumption) ?_ | refine Sp_f (by assumption) ?_ | refine Sp_split (fun h => ?_) (fun h => ?_)) <;> (first | have h' := Fact_lt h | have h' := Fact_nlt h | have h' := Fact_le h | have h' := Fact_nle h | skip) <;> (try (exfalso; omega))) | refine TreeW_intro (by rfl) ?_ | refine TreeW_all ?_ | refine upQ_intro ?_ | refine Two_intro ?_ ?_ | (refine leK_lit ?_; (simp [-List.getD_eq_getElem?_getD, LeL, lk, *]; done)) | (refine leK_dd ?_; (simp [-List.getD_eq_getElem?_getD, LeS, LeL, lk, *]; done)) | (simp only [Fact, Bool.not_eq_true', Bool.not_eq_false', decide_eq_true_eq, decide_eq_false_iff_not] at *; refine leK_dd ?_; (simp [-List.getD_eq_getElem?_getD, LeS, LeL, lk, *]; done)) | (show (_ : Nat) ≤ _; omega)) <;> (try simp (disch := omega) only [*, ↓Ed, Eu, ↓reduceIte, reduceCtorEq, Nat.reduceAdd, Nat.reduceEqDiff, Nat.reduceLT, Nat.reduceLeDiff, Int.reduceToNat, Int.reduceEq, Int.reduceLT, Int.reduceLE, gdS, al_pc, al_rc, rc_nil, rc_cons, pc_nil, pc_cons, psC, w64, List.length_append, List.length_map, Nat.mul_one, beq_self_eq_true, PathC.cs, RuleC.cs, gdP, gdR]))
    all_goals exact ro_mk (by simp [LeL, lk, resR, arR, pths, pc_cons]) dom1
  have f6 : Fact (decide (re = 0) = true) := decide_eq_true h5
  replace hq := hq ⟨h4, h5⟩
  rw [hq]
  clear h4 h5 hq hq2
  rcases f4 with f2 | ⟨f2, f3⟩
  · simp only [c_ligref20_state_path, ↓Ed, Eu, ↓reduceIte, reduceCtorEq, Nat.reduceAdd, Nat.reduceEqDiff, Nat.reduceLT, Nat.reduceLeDiff, Int.reduceToNat, Int.reduceEq, Int.reduceLT, Int.reduceLE, gdS, al_pc, al_rc, rc_nil, rc_cons, pc_nil, pc_cons, psC, w64, List.length_append, List.length_map, Nat.mul_one, beq_self_eq_true, PathC.cs, RuleC.cs, gdP, gdR]
    repeat' ((first | refine CallO_pure (p1) ?_ | refine CallO_pure (p2) ?_ | refine CallW_intro (p1) ?_ | refine CallW_intro (p2) ?_ | refine NewB_intro0 (fun b => ?_) | (refine NewB_intro (fun b hb => ?_); simp only [ln_cons2, ln_nil, and_true] at hb) | (with_reducible apply And.intro; (focus (first | omega | (simp only [Fact, Bool.not_eq_true', Bool.not_eq_false', decide_eq_true_eq, decide_eq_false_iff_not] at *; omega)))) | ((first | refine gW_sp ?_ | refine condW_sp ?_ | refine pickW_sp ?_); (try refine Sp_n ?_); (first | refine Sp_t (by assumption) ?_ | refine Sp_f (by assumption) ?_ | refine Sp_split (fun h => ?_) (fun h => ?_)) <;> (first | have h' := Fact_lt h | have h' := Fact_nlt h | have h' := Fact_le h | have h' := Fact_nle h | skip) <;> (try (exfalso; omega))) | refine TreeW_intro (by rfl) ?_ | refine TreeW_all ?_ | refine upQ_intro ?_ | refine Two_intro ?_ ?_ | (refine leK_lit ?_; (simp [-List.getD_eq_getElem?_getD, LeL, lk, *]; done)) | (refine leK_dd ?_; (simp [-List.getD_eq_getElem?_getD, LeS, LeL, lk, *]; done)) | (simp only [Fact, Bool.not_eq_true', Bool.not_eq_false', decide_eq_true_eq, decide_eq_false_iff_not] at *; refine leK_dd ?_; (simp [-List.getD_eq_getElem?_getD, LeS, LeL, lk, *]; done)) | (show (_ : Nat) ≤ _; omega)) <;> (try simp (disch := omega) only [*, ↓Ed, Eu, ↓reduceIte, reduceCtorEq, Nat.reduceAdd, Nat.reduceEqDiff, Nat.reduceLT, Nat.reduceLeDiff, Int.reduceToNat, Int.reduceEq, Int.reduceLT, Int.reduceLE, gdS, al_pc, al_rc, rc_nil, rc_cons, pc_nil, pc_cons, psC, w64, List.length_append, List.length_map, Nat.mul_one, beq_self_eq_true, PathC.cs, RuleC.cs, gdP, gdR]))
    rename_i ea hea
    obtain ⟨⟨ca, cb, cla, clb, cps, crs, civ⟩, xa, xb, xi⟩ := x
    simp only at hr ⊢
    refine wpx_loop (fun k : Nat => ⟨lk [(0, .ptr sb 0), (1, .sl none 1 (strs w)), (5, .ptr ea 0), (7, .ptr b 0), (9, .int .i64 (k : Int))], lk [(sb, psC ⟨⟨ca, cb, cla, clb, cps, crs, civ⟩, xa, xb, xi⟩), (ea, [.str qa, .int .i64 qc]), (b, [.str ra, .int .i64 rc])]⟩) (fun k => k ≤ cps.length ∧ Fact (apartP ⟨qa, qc, ra, rc, decide (w.getD 3 [] = cOrd)⟩ (cps.take k) = true)) (fun k => cps.length - k) 0 ⟨Nat.zero_le _, by simp [Fact, apartP]⟩ (Le_lit (by simp [LeL, lk, hb, hea])) ?_
    rintro k ⟨h0, h1⟩
    by_cases hk : k < cps.length
    · simp (disch := omega) only [↓Ed, Eu, ↓reduceIte, reduceCtorEq, Nat.reduceAdd, Nat.reduceEqDiff, Nat.reduceLT, Nat.reduceLeDiff, Int.reduceToNat, Int.reduceEq, Int.reduceLT, Int.reduceLE, gdS, al_pc, al_rc, rc_nil, rc_cons, pc_nil, pc_cons, psC, w64, List.length_append, List.length_map, Nat.mul_one, beq_self_eq_true, PathC.cs, RuleC.cs, gdP, gdR]
      repeat' ((first | refine NewB_intro0 (fun b => ?_) | (refine NewB_intro (fun b hb => ?_); simp only [ln_cons2, ln_nil, and_true] at hb) | (with_reducible apply And.intro; (focus (first | omega | (simp only [Fact, Bool.not_eq_true', Bool.not_eq_false', decide_eq_true_eq, decide_eq_false_iff_not] at *; omega)))) | ((first | refine gW_sp ?_ | refine condW_sp ?_ | refine pickW_sp ?_); (try refine Sp_n ?_); (first | refine Sp_t (by assumption) ?_ | refine Sp_f (by assumption) ?_ | refine Sp_split (fun h => ?_) (fun h => ?_)) <;> (first | have h' := Fact_lt h | have h' := Fact_nlt h | have h' := Fact_le h | have h' := Fact_nle h | skip) <;> (try (exfalso; omega))) | refine TreeW_intro (by rfl) ?_ | refine TreeW_all ?_ | refine upQ_intro ?_ | refine Two_intro ?_ ?_ | (refine leK_lit ?_; (simp [-List.getD_eq_getElem?_getD, LeL, lk, *]; done)) | (refine leK_dd ?_; (simp [-List.getD_eq_getElem?_getD, LeS, LeL, lk, *]; done)) | (simp only [Fact, Bool.not_eq_true', Bool.not_eq_false', decide_eq_true_eq, decide_eq_false_iff_not] at *; refine leK_dd ?_; (simp [-List.getD_eq_getElem?_getD, LeS, LeL, lk, *]; done)) | (show (_ : Nat) ≤ _; omega)) <;> (try simp (disch := omega) only [*, ↓Ed, Eu, ↓reduceIte, reduceCtorEq, Nat.reduceAdd, Nat.reduceEqDiff, Nat.reduceLT, Nat.reduceLeDiff, Int.reduceToNat, Int.reduceEq, Int.reduceLT, Int.reduceLE, gdS, al_pc, al_rc, rc_nil, rc_cons, pc_nil, pc_cons, psC, w64, List.length_append, List.length_map, Nat.mul_one, beq_self_eq_true, PathC.cs, RuleC.cs, gdP, gdR]))
      · rename_i h
        simp only [Fact, Bool.not_eq_true', Bool.not_eq_false', decide_eq_true_eq, decide_eq_false_iff_not, Bool.and_eq_true] at h
        rw [apart_bad (k := k) hk (by simp only [meets, h, and_self, decide_true, Bool.true_or]), if_pos rfl]
        exact ro_mk (by simp [LeL, lk, resR, arR, hb, hea]) (dom1)
      · rename_i h
        simp only [Fact, Bool.not_eq_true', Bool.not_eq_false', decide_eq_true_eq, decide_eq_false_iff_not, Bool.and_eq_true] at h
        rw [apart_bad (k := k) hk (by simp only [meets, h, and_self, decide_true, Bool.or_true]), if_pos rfl]
        exact ro_mk (by simp [LeL, lk, resR, arR, hb, hea]) (dom1)
      · rename_i _ h3
        have h4 := h
        simp only [Fact, Bool.not_eq_true', Bool.not_eq_false', decide_eq_true_eq, decide_eq_false_iff_not, Bool.and_eq_false_iff] at h3 h4
        refine Round_lit (k + 1) ⟨Le_lit (by simp [LeL, lk, hb, hea]), ⟨by omega, ?_⟩, by omega⟩
        simp only [Fact] at h1 ⊢
        rw [apart_take (by omega), h1]
        simp only [meets, Bool.true_and, Bool.not_eq_true', Bool.or_eq_false_iff, decide_eq_false_iff_not]
        exact ⟨fun g => h3.elim (fun q => q g.1) (fun q => q g.2), fun g => h4.elim (fun q => q g.1) (fun q => q g.2)⟩
    · rw [show apartP _ cps = true from by simp only [Fact] at h1; rw [List.take_of_length_le (by omega)] at h1; exact h1, if_neg (by decide)]
      clear h1
      cases cps with
      | nil =>
        rw [if_neg (by simp)]
        have f7 : Fact (decide (6 ≤ ((0 : Nat) : Int)) = false) := by simp [Fact]
        have f8 : Fact (decide ((k : Int) < ((0 : Nat) : Int)) = false) := by simp only [Fact, Bool.not_eq_true', Bool.not_eq_false', decide_eq_true_eq, decide_eq_false_iff_not]; omega
        clear hk h0
        simp (disch := omega) only [↓Ed, Eu, ↓reduceIte, reduceCtorEq, Nat.reduceAdd, Nat.reduceEqDiff, Nat.reduceLT, Nat.reduceLeDiff, Int.reduceToNat, Int.reduceEq, Int.reduceLT, Int.reduceLE, gdS, al_pc, al_rc, rc_nil, rc_cons, pc_nil, pc_cons, psC, w64, List.length_append, List.length_map, Nat.mul_one, beq_self_eq_true, PathC.cs, RuleC.cs, gdP, gdR]
        repeat' ((first | refine NewB_intro0 (fun b => ?_) | (refine NewB_intro (fun b hb => ?_); simp only [ln_cons2, ln_nil, and_true] at hb) | (with_reducible apply And.intro; (focus (first | omega | (simp only [Fact, Bool.not_eq_true', Bool.not_eq_false', decide_eq_true_eq, decide_eq_false_iff_not] at *; omega)))) | ((first | refine gW_sp ?_ | refine condW_sp ?_ | refine pickW_sp ?_); (try refine Sp_n ?_); (first | refine Sp_t (by assumption) ?_ | refine Sp_f (by assumption) ?_ | refine Sp_split (fun h => ?_) (fun h => ?_)) <;> (first | have h' := Fact_lt h | have h' := Fact_nlt h | have h' := Fact_le h | have h' := Fact_nle h | skip) <;> (try (exfalso; omega))) | refine TreeW_intro (by rfl) ?_ | refine TreeW_all ?_ | refine upQ_intro ?_ | refine Two_intro ?_ ?_ | (refine leK_lit ?_; (simp [-List.getD_eq_getElem?_getD, LeL, lk, *]; done)) | (refine leK_dd ?_; (simp [-List.getD_eq_getElem?_getD, LeS, LeL, lk, *]; done)) | (simp only [Fact, Bool.not_eq_true', Bool.not_eq_false', decide_eq_true_eq, decide_eq_false_iff_not] at *; refine leK_dd ?_; (simp [-List.getD_eq_getElem?_getD, LeS, LeL, lk, *]; done)) | (show (_ : Nat) ≤ _; omega)) <;> (try simp (disch := omega) only [*, ↓Ed, Eu, ↓reduceIte, reduceCtorEq, Nat.reduceAdd, Nat.reduceEqDiff, Nat.reduceLT, Nat.reduceLeDiff, Int.reduceToNat, Int.reduceEq, Int.reduceLT, Int.reduceLE, gdS, al_pc, al_rc, rc_nil, rc_cons, pc_nil, pc_cons, psC, w64, List.length_append, List.length_map, Nat.mul_one, beq_self_eq_true, PathC.cs, RuleC.cs, gdP, gdR]))
        all_goals exact ro_mk (by simp [LeL, lk, resR, arR, pths, pc_cons, hb, hea]) dom1
      | cons p0 ps =>
        have hr2 : ps.length ≤ 5 := by simpa using hr
        have f8 : Fact (decide ((k : Int) < ((ps.length + 1 : Nat) : Int)) = false) := by simp only [Fact, Bool.not_eq_true', Bool.not_eq_false', decide_eq_true_eq, decide_eq_false_iff_not]; simp only [List.length_cons] at hk; omega
        clear hk h0
        by_cases h7 : (p0 :: ps).length = 6
        · rw [if_pos h7]
          have f7 : Fact (decide (6 ≤ ((ps.length + 1 : Nat) : Int)) = true) := by simp only [Fact, Bool.not_eq_true', Bool.not_eq_false', decide_eq_true_eq, decide_eq_false_iff_not]; simp only [List.length_cons] at h7; omega
          clear h7
          simp (disch := omega) only [↓Ed, Eu, ↓reduceIte, reduceCtorEq, Nat.reduceAdd, Nat.reduceEqDiff, Nat.reduceLT, Nat.reduceLeDiff, Int.reduceToNat, Int.reduceEq, Int.reduceLT, Int.reduceLE, gdS, al_pc, al_rc, rc_nil, rc_cons, pc_nil, pc_cons, psC, w64, List.length_append, List.length_map, Nat.mul_one, beq_self_eq_true, PathC.cs, RuleC.cs, gdP, gdR]
          repeat' ((first | refine NewB_intro0 (fun b => ?_) | (refine NewB_intro (fun b hb => ?_); simp only [ln_cons2, ln_nil, and_true] at hb) | (with_reducible apply And.intro; (focus (first | omega | (simp only [Fact, Bool.not_eq_true', Bool.not_eq_false', decide_eq_true_eq, decide_eq_false_iff_not] at *; omega)))) | ((first | refine gW_sp ?_ | refine condW_sp ?_ | refine pickW_sp ?_); (try refine Sp_n ?_); (first | refine Sp_t (by assumption) ?_ | refine Sp_f (by assumption) ?_ | refine Sp_split (fun h => ?_) (fun h => ?_)) <;> (first | have h' := Fact_lt h | have h' := Fact_nlt h | have h' := Fact_le h | have h' := Fact_nle h | skip) <;> (try (exfalso; omega))) | refine TreeW_intro (by rfl) ?_ | refine TreeW_all ?_ | refine upQ_intro ?_ | refine Two_intro ?_ ?_ | (refine leK_lit ?_; (simp [-List.getD_eq_getElem?_getD, LeL, lk, *]; done)) | (refine leK_dd ?_; (simp [-List.getD_eq_getElem?_getD, LeS, LeL, lk, *]; done)) | (simp only [Fact, Bool.not_eq_true', Bool.not_eq_false', decide_eq_true_eq, decide_eq_false_iff_not] at *; refine leK_dd ?_; (simp [-List.getD_eq_getElem?_getD, LeS, LeL, lk, *]; done)) | (show (_ : Nat) ≤ _; omega)) <;> (try simp (disch := omega) only [*, ↓Ed, Eu, ↓reduceIte, reduceCtorEq, Nat.reduceAdd, Nat.reduceEqDiff, Nat.reduceLT, Nat.reduceLeDiff, Int.reduceToNat, Int.reduceEq, Int.reduceLT, Int.reduceLE, gdS, al_pc, al_rc, rc_nil, rc_cons, pc_nil, pc_cons, psC, w64, List.length_append, List.length_map, Nat.mul_one, beq_self_eq_true, PathC.cs, RuleC.cs, gdP, gdR]))
          all_goals exact ro_mk (by simp [LeL, lk, resR, arR, pths, pc_cons, hb, hea]) dom1
        · rw [if_neg h7]
          have f7 : Fact (decide (6 ≤ ((ps.length + 1 : Nat) : Int)) = false) := by simp only [Fact, Bool.not_eq_true', Bool.not_eq_false', decide_eq_true_eq, decide_eq_false_iff_not]; simp only [List.length_cons] at h7; omega
          clear h7
          simp (disch := omega) only [↓Ed, Eu, ↓reduceIte, reduceCtorEq, Nat.reduceAdd, Nat.reduceEqDiff, Nat.reduceLT, Nat.reduceLeDiff, Int.reduceToNat, Int.reduceEq, Int.reduceLT, Int.reduceLE, gdS, al_pc, al_rc, rc_nil, rc_cons, pc_nil, pc_cons, psC, w64, List.length_append, List.length_map, Nat.mul_one, beq_self_eq_true, PathC.cs, RuleC.cs, gdP, gdR]
          repeat' ((first | refine NewB_intro0 (fun b => ?_) | (refine NewB_intro (fun b hb => ?_); simp only [ln_cons2, ln_nil, and_true] at hb) | (with_reducible apply And.intro; (focus (first | omega | (simp only [Fact, Bool.not_eq_true', Bool.not_eq_false', decide_eq_true_eq, decide_eq_false_iff_not] at *; omega)))) | ((first | refine gW_sp ?_ | refine condW_sp ?_ | refine pickW_sp ?_); (try refine Sp_n ?_); (first | refine Sp_t (by assumption) ?_ | refine Sp_f (by assumption) ?_ | refine Sp_split (fun h => ?_) (fun h => ?_)) <;> (first | have h' := Fact_lt h | have h' := Fact_nlt h | have h' := Fact_le h | have h' := Fact_nle h | skip) <;> (try (exfalso; omega))) | refine TreeW_intro (by rfl) ?_ | refine TreeW_all ?_ | refine upQ_intro ?_ | refine Two_intro ?_ ?_ | (refine leK_lit ?_; (simp [-List.getD_eq_getElem?_getD, LeL, lk, *]; done)) | (refine leK_dd ?_; (simp [-List.getD_eq_getElem?_getD, LeS, LeL, lk, *]; done)) | (simp only [Fact, Bool.not_eq_true', Bool.not_eq_false', decide_eq_true_eq, decide_eq_false_iff_not] at *; refine leK_dd ?_; (simp [-List.getD_eq_getElem?_getD, LeS, LeL, lk, *]; done)) | (show (_ : Nat) ≤ _; omega)) <;> (try simp (disch := omega) only [*, ↓Ed, Eu, ↓reduceIte, reduceCtorEq, Nat.reduceAdd, Nat.reduceEqDiff, Nat.reduceLT, Nat.reduceLeDiff, Int.reduceToNat, Int.reduceEq, Int.reduceLT, Int.reduceLE, gdS, al_pc, al_rc, rc_nil, rc_cons, pc_nil, pc_cons, psC, w64, List.length_append, List.length_map, Nat.mul_one, beq_self_eq_true, PathC.cs, RuleC.cs, gdP, gdR]))
          all_goals exact ro_mk (by simp [LeL, lk, resR, arR, pths, pc_cons, hb, hea]) dom1
  · simp only [c_ligref20_state_path, ↓Ed, Eu, ↓reduceIte, reduceCtorEq, Nat.reduceAdd, Nat.reduceEqDiff, Nat.reduceLT, Nat.reduceLeDiff, Int.reduceToNat, Int.reduceEq, Int.reduceLT, Int.reduceLE, gdS, al_pc, al_rc, rc_nil, rc_cons, pc_nil, pc_cons, psC, w64, List.length_append, List.length_map, Nat.mul_one, beq_self_eq_true, PathC.cs, RuleC.cs, gdP, gdR]
    repeat' ((first | refine CallO_pure (p1) ?_ | refine CallO_pure (p2) ?_ | refine CallW_intro (p1) ?_ | refine CallW_intro (p2) ?_ | refine NewB_intro0 (fun b => ?_) | (refine NewB_intro (fun b hb => ?_); simp only [ln_cons2, ln_nil, and_true] at hb) | (with_reducible apply And.intro; (focus (first | omega | (simp only [Fact, Bool.not_eq_true', Bool.not_eq_false', decide_eq_true_eq, decide_eq_false_iff_not] at *; omega)))) | ((first | refine gW_sp ?_ | refine condW_sp ?_ | refine pickW_sp ?_); (try refine Sp_n ?_); (first | refine Sp_t (by assumption) ?_ | refine Sp_f (by assumption) ?_ | refine Sp_split (fun h => ?_) (fun h => ?_)) <;> (first | have h' := Fact_lt h | have h' := Fact_nlt h | have h' := Fact_le h | have h' := Fact_nle h | skip) <;> (try (exfalso; omega))) | refine TreeW_intro (by rfl) ?_ | refine TreeW_all ?_ | refine upQ_intro ?_ | refine Two_intro ?_ ?_ | (refine leK_lit ?_; (simp [-List.getD_eq_getElem?_getD, LeL, lk, *]; done)) | (refine leK_dd ?_; (simp [-List.getD_eq_getElem?_getD, LeS, LeL, lk, *]; done)) | (simp only [Fact, Bool.not_eq_true', Bool.not_eq_false', decide_eq_true_eq, decide_eq_false_iff_not] at *; refine leK_dd ?_; (simp [-List.getD_eq_getElem?_getD, LeS, LeL, lk, *]; done)) | (show (_ : Nat) ≤ _; omega)) <;> (try simp (disch := omega) only [*, ↓Ed, Eu, ↓reduceIte, reduceCtorEq, Nat.reduceAdd, Nat.reduceEqDiff, Nat.reduceLT, Nat.reduceLeDiff, Int.reduceToNat, Int.reduceEq, Int.reduceLT, Int.reduceLE, gdS, al_pc, al_rc, rc_nil, rc_cons, pc_nil, pc_cons, psC, w64, List.length_append, List.length_map, Nat.mul_one, beq_self_eq_true, PathC.cs, RuleC.cs, gdP, gdR]))
    rename_i ea hea
    obtain ⟨⟨ca, cb, cla, clb, cps, crs, civ⟩, xa, xb, xi⟩ := x
    simp only at hr ⊢
    refine wpx_loop (fun k : Nat => ⟨lk [(0, .ptr sb 0), (1, .sl none 1 (strs w)), (5, .ptr ea 0), (7, .ptr b 0), (9, .int .i64 (k : Int))], lk [(sb, psC ⟨⟨ca, cb, cla, clb, cps, crs, civ⟩, xa, xb, xi⟩), (ea, [.str qa, .int .i64 qc]), (b, [.str ra, .int .i64 rc])]⟩) (fun k => k ≤ cps.length ∧ Fact (apartP ⟨qa, qc, ra, rc, decide (w.getD 3 [] = cOrd)⟩ (cps.take k) = true)) (fun k => cps.length - k) 0 ⟨Nat.zero_le _, by simp [Fact, apartP]⟩ (Le_lit (by simp [LeL, lk, hb, hea])) ?_
    rintro k ⟨h0, h1⟩
    by_cases hk : k < cps.length
    · simp (disch := omega) only [↓Ed, Eu, ↓reduceIte, reduceCtorEq, Nat.reduceAdd, Nat.reduceEqDiff, Nat.reduceLT, Nat.reduceLeDiff, Int.reduceToNat, Int.reduceEq, Int.reduceLT, Int.reduceLE, gdS, al_pc, al_rc, rc_nil, rc_cons, pc_nil, pc_cons, psC, w64, List.length_append, List.length_map, Nat.mul_one, beq_self_eq_true, PathC.cs, RuleC.cs, gdP, gdR]
      repeat' ((first | refine NewB_intro0 (fun b => ?_) | (refine NewB_intro (fun b hb => ?_); simp only [ln_cons2, ln_nil, and_true] at hb) | (with_reducible apply And.intro; (focus (first | omega | (simp only [Fact, Bool.not_eq_true', Bool.not_eq_false', decide_eq_true_eq, decide_eq_false_iff_not] at *; omega)))) | ((first | refine gW_sp ?_ | refine condW_sp ?_ | refine pickW_sp ?_); (try refine Sp_n ?_); (first | refine Sp_t (by assumption) ?_ | refine Sp_f (by assumption) ?_ | refine Sp_split (fun h => ?_) (fun h => ?_)) <;> (first | have h' := Fact_lt h | have h' := Fact_nlt h | have h' := Fact_le h | have h' := Fact_nle h | skip) <;> (try (exfalso; omega))) | refine TreeW_intro (by rfl) ?_ | refine TreeW_all ?_ | refine upQ_intro ?_ | refine Two_intro ?_ ?_ | (refine leK_lit ?_; (simp [-List.getD_eq_getElem?_getD, LeL, lk, *]; done)) | (refine leK_dd ?_; (simp [-List.getD_eq_getElem?_getD, LeS, LeL, lk, *]; done)) | (simp only [Fact, Bool.not_eq_true', Bool.not_eq_false', decide_eq_true_eq, decide_eq_false_iff_not] at *; refine leK_dd ?_; (simp [-List.getD_eq_getElem?_getD, LeS, LeL, lk, *]; done)) | (show (_ : Nat) ≤ _; omega)) <;> (try simp (disch := omega) only [*, ↓Ed, Eu, ↓reduceIte, reduceCtorEq, Nat.reduceAdd, Nat.reduceEqDiff, Nat.reduceLT, Nat.reduceLeDiff, Int.reduceToNat, Int.reduceEq, Int.reduceLT, Int.reduceLE, gdS, al_pc, al_rc, rc_nil, rc_cons, pc_nil, pc_cons, psC, w64, List.length_append, List.length_map, Nat.mul_one, beq_self_eq_true, PathC.cs, RuleC.cs, gdP, gdR]))
      · rename_i h
        simp only [Fact, Bool.not_eq_true', Bool.not_eq_false', decide_eq_true_eq, decide_eq_false_iff_not, Bool.and_eq_true] at h
        rw [apart_bad (k := k) hk (by simp only [meets, h, and_self, decide_true, Bool.true_or]), if_pos rfl]
        exact ro_mk (by simp [LeL, lk, resR, arR, hb, hea]) (dom1)
      · rename_i h
        simp only [Fact, Bool.not_eq_true', Bool.not_eq_false', decide_eq_true_eq, decide_eq_false_iff_not, Bool.and_eq_true] at h
        rw [apart_bad (k := k) hk (by simp only [meets, h, and_self, decide_true, Bool.or_true]), if_pos rfl]
        exact ro_mk (by simp [LeL, lk, resR, arR, hb, hea]) (dom1)
      · rename_i _ h3
        have h4 := h
        simp only [Fact, Bool.not_eq_true', Bool.not_eq_false', decide_eq_true_eq, decide_eq_false_iff_not, Bool.and_eq_false_iff] at h3 h4
        refine Round_lit (k + 1) ⟨Le_lit (by simp [LeL, lk, hb, hea]), ⟨by omega, ?_⟩, by omega⟩
        simp only [Fact] at h1 ⊢
        rw [apart_take (by omega), h1]
        simp only [meets, Bool.true_and, Bool.not_eq_true', Bool.or_eq_false_iff, decide_eq_false_iff_not]
        exact ⟨fun g => h3.elim (fun q => q g.1) (fun q => q g.2), fun g => h4.elim (fun q => q g.1) (fun q => q g.2)⟩
    · rw [show apartP _ cps = true from by simp only [Fact] at h1; rw [List.take_of_length_le (by omega)] at h1; exact h1, if_neg (by decide)]
      clear h1
      cases cps with
      | nil =>
        rw [if_neg (by simp)]
        have f7 : Fact (decide (6 ≤ ((0 : Nat) : Int)) = false) := by simp [Fact]
        have f8 : Fact (decide ((k : Int) < ((0 : Nat) : Int)) = false) := by simp only [Fact, Bool.not_eq_true', Bool.not_eq_false', decide_eq_true_eq, decide_eq_false_iff_not]; omega
        clear hk h0
        simp (disch := omega) only [↓Ed, Eu, ↓reduceIte, reduceCtorEq, Nat.reduceAdd, Nat.reduceEqDiff, Nat.reduceLT, Nat.reduceLeDiff, Int.reduceToNat, Int.reduceEq, Int.reduceLT, Int.reduceLE, gdS, al_pc, al_rc, rc_nil, rc_cons, pc_nil, pc_cons, psC, w64, List.length_append, List.length_map, Nat.mul_one, beq_self_eq_true, PathC.cs, RuleC.cs, gdP, gdR]
        repeat' ((first | refine NewB_intro0 (fun b => ?_) | (refine NewB_intro (fun b hb => ?_); simp only [ln_cons2, ln_nil, and_true] at hb) | (with_reducible apply And.intro; (focus (first | omega | (simp only [Fact, Bool.not_eq_true', Bool.not_eq_false', decide_eq_true_eq, decide_eq_false_iff_not] at *; omega)))) | ((first | refine gW_sp ?_ | refine condW_sp ?_ | refine pickW_sp ?_); (try refine Sp_n ?_); (first | refine Sp_t (by assumption) ?_ | refine Sp_f (by assumption) ?_ | refine Sp_split (fun h => ?_) (fun h => ?_)) <;> (first | have h' := Fact_lt h | have h' := Fact_nlt h | have h' := Fact_le h | have h' := Fact_nle h | skip) <;> (try (exfalso; omega))) | refine TreeW_intro (by rfl) ?_ | refine TreeW_all ?_ | refine upQ_intro ?_ | refine Two_intro ?_ ?_ | (refine leK_lit ?_; (simp [-List.getD_eq_getElem?_getD, LeL, lk, *]; done)) | (refine leK_dd ?_; (simp [-List.getD_eq_getElem?_getD, LeS, LeL, lk, *]; done)) | (simp only [Fact, Bool.not_eq_true', Bool.not_eq_false', decide_eq_true_eq, decide_eq_false_iff_not] at *; refine leK_dd ?_; (simp [-List.getD_eq_getElem?_getD, LeS, LeL, lk, *]; done)) | (show (_ : Nat) ≤ _; omega)) <;> (try simp (disch := omega) only [*, ↓Ed, Eu, ↓reduceIte, reduceCtorEq, Nat.reduceAdd, Nat.reduceEqDiff, Nat.reduceLT, Nat.reduceLeDiff, Int.reduceToNat, Int.reduceEq, Int.reduceLT, Int.reduceLE, gdS, al_pc, al_rc, rc_nil, rc_cons, pc_nil, pc_cons, psC, w64, List.length_append, List.length_map, Nat.mul_one, beq_self_eq_true, PathC.cs, RuleC.cs, gdP, gdR]))
        all_goals exact ro_mk (by simp [LeL, lk, resR, arR, pths, pc_cons, hb, hea]) dom1
      | cons p0 ps =>
        have hr2 : ps.length ≤ 5 := by simpa using hr
        have f8 : Fact (decide ((k : Int) < ((ps.length + 1 : Nat) : Int)) = false) := by simp only [Fact, Bool.not_eq_true', Bool.not_eq_false', decide_eq_true_eq, decide_eq_false_iff_not]; simp only [List.length_cons] at hk; omega
        clear hk h0
        by_cases h7 : (p0 :: ps).length = 6
        · rw [if_pos h7]
          have f7 : Fact (decide (6 ≤ ((ps.length + 1 : Nat) : Int)) = true) := by simp only [Fact, Bool.not_eq_true', Bool.not_eq_false', decide_eq_true_eq, decide_eq_false_iff_not]; simp only [List.length_cons] at h7; omega
          clear h7
          simp (disch := omega) only [↓Ed, Eu, ↓reduceIte, reduceCtorEq, Nat.reduceAdd, Nat.reduceEqDiff, Nat.reduceLT, Nat.reduceLeDiff, Int.reduceToNat, Int.reduceEq, Int.reduceLT, Int.reduceLE, gdS, al_pc, al_rc, rc_nil, rc_cons, pc_nil, pc_cons, psC, w64, List.length_append, List.length_map, Nat.mul_one, beq_self_eq_true, PathC.cs, RuleC.cs, gdP, gdR]
          repeat' ((first | refine NewB_intro0 (fun b => ?_) | (refine NewB_intro (fun b hb => ?_); simp only [ln_cons2, ln_nil, and_true] at hb) | (with_reducible apply And.intro; (focus (first | omega | (simp only [Fact, Bool.not_eq_true', Bool.not_eq_false', decide_eq_true_eq, decide_eq_false_iff_not] at *; omega)))) | ((first | refine gW_sp ?_ | refine condW_sp ?_ | refine pickW_sp ?_); (try refine Sp_n ?_); (first | refine Sp_t (by assumption) ?_ | refine Sp_f (by assumption) ?_ | refine Sp_split (fun h => ?_) (fun h => ?_)) <;> (first | have h' := Fact_lt h | have h' := Fact_nlt h | have h' := Fact_le h | have h' := Fact_nle h | skip) <;> (try (exfalso; omega))) | refine TreeW_intro (by rfl) ?_ | refine TreeW_all ?_ | refine upQ_intro ?_ | refine Two_intro ?_ ?_ | (refine leK_lit ?_; (simp [-List.getD_eq_getElem?_getD, LeL, lk, *]; done)) | (refine leK_dd ?_; (simp [-List.getD_eq_getElem?_getD, LeS, LeL, lk, *]; done)) | (simp only [Fact, Bool.not_eq_true', Bool.not_eq_false', decide_eq_true_eq, decide_eq_false_iff_not] at *; refine leK_dd ?_; (simp [-List.getD_eq_getElem?_getD, LeS, LeL, lk, *]; done)) | (show (_ : Nat) ≤ _; omega)) <;> (try simp (disch := omega) only [*, ↓Ed, Eu, ↓reduceIte, reduceCtorEq, Nat.reduceAdd, Nat.reduceEqDiff, Nat.reduceLT, Nat.reduceLeDiff, Int.reduceToNat, Int.reduceEq, Int.reduceLT, Int.reduceLE, gdS, al_pc, al_rc, rc_nil, rc_cons, pc_nil, pc_cons, psC, w64, List.length_append, List.length_map, Nat.mul_one, beq_self_eq_true, PathC.cs, RuleC.cs, gdP, gdR]))
          all_goals exact ro_mk (by simp [LeL, lk, resR, arR, pths, pc_cons, hb, hea]) dom1
        · rw [if_neg h7]
          have f7 : Fact (decide (6 ≤ ((ps.length + 1 : Nat) : Int)) = false) := by simp only [Fact, Bool.not_eq_true', Bool.not_eq_false', decide_eq_true_eq, decide_eq_false_iff_not]; simp only [List.length_cons] at h7; omega
          clear h7
          simp (disch := omega) only [↓Ed, Eu, ↓reduceIte, reduceCtorEq, Nat.reduceAdd, Nat.reduceEqDiff, Nat.reduceLT, Nat.reduceLeDiff, Int.reduceToNat, Int.reduceEq, Int.reduceLT, Int.reduceLE, gdS, al_pc, al_rc, rc_nil, rc_cons, pc_nil, pc_cons, psC, w64, List.length_append, List.length_map, Nat.mul_one, beq_self_eq_true, PathC.cs, RuleC.cs, gdP, gdR]
          repeat' ((first | refine NewB_intro0 (fun b => ?_) | (refine NewB_intro (fun b hb => ?_); simp only [ln_cons2, ln_nil, and_true] at hb) | (with_reducible apply And.intro; (focus (first | omega | (simp only [Fact, Bool.not_eq_true', Bool.not_eq_false', decide_eq_true_eq, decide_eq_false_iff_not] at *; omega)))) | ((first | refine gW_sp ?_ | refine condW_sp ?_ | refine pickW_sp ?_); (try refine Sp_n ?_); (first | refine Sp_t (by assumption) ?_ | refine Sp_f (by assumption) ?_ | refine Sp_split (fun h => ?_) (fun h => ?_)) <;> (first | have h' := Fact_lt h | have h' := Fact_nlt h | have h' := Fact_le h | have h' := Fact_nle h | skip) <;> (try (exfalso; omega))) | refine TreeW_intro (by rfl) ?_ | refine TreeW_all ?_ | refine upQ_intro ?_ | refine Two_intro ?_ ?_ | (refine leK_lit ?_; (simp [-List.getD_eq_getElem?_getD, LeL, lk, *]; done)) | (refine leK_dd ?_; (simp [-List.getD_eq_getElem?_getD, LeS, LeL, lk, *]; done)) | (simp only [Fact, Bool.not_eq_true', Bool.not_eq_false', decide_eq_true_eq, decide_eq_false_iff_not] at *; refine leK_dd ?_; (simp [-List.getD_eq_getElem?_getD, LeS, LeL, lk, *]; done)) | (show (_ : Nat) ≤ _; omega)) <;> (try simp (disch := omega) only [*, ↓Ed, Eu, ↓reduceIte, reduceCtorEq, Nat.reduceAdd, Nat.reduceEqDiff, Nat.reduceLT, Nat.reduceLeDiff, Int.reduceToNat, Int.reduceEq, Int.reduceLT, Int.reduceLE, gdS, al_pc, al_rc, rc_nil, rc_cons, pc_nil, pc_cons, psC, w64, List.length_append, List.length_map, Nat.mul_one, beq_self_eq_true, PathC.cs, RuleC.cs, gdP, gdR]))
          all_goals exact ro_mk (by simp [LeL, lk, resR, arR, pths, pc_cons, hb, hea]) dom1
end Go.Proofs.YtbjmcmgekcmbpaaDoor
