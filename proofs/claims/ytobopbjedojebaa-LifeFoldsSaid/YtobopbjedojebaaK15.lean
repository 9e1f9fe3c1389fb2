import Derived.Test.YtobopbjedojebaaK14
import Derived.Test.YtobopbjedojebaaK11
import Derived.Sort.Walk0
import Derived.Test.YtobopbjedojebaaK10
/- events: Own; light events; what stands first -/
namespace Go.Proofs.Ytobopbjedojebaa
set_option linter.all false
open Go.RowKit
set_option maxRecDepth 100000
theorem may_range {e : EvC} (h : mayE e = true) : 1 ≤ e.k ∧ e.k ≤ 7 := by
  unfold mayE at h; simp only [Bool.and_eq_true, decide_eq_true_eq] at h; exact h.1.1
theorem own_no {e : EvC} (h : mayE e = false) : ownE e = ([], 0, 0, false) := by unfold ownE; rw [h]; rfl
theorem own_src {e : EvC} (h : mayE e = true) (hk : e.k = 1 ∨ e.k = 4 ∨ e.k = 5) : ownE e = (e.p.s, e.p.sc, e.p.q, true) := by unfold ownE; rw [if_pos h, if_pos hk]
theorem own_dst {e : EvC} (h : mayE e = true) (hk : e.k = 2 ∨ e.k = 3) : ownE e = (e.p.d, e.p.dc, e.p.q, true) := by unfold ownE; rw [if_pos h, if_neg (by omega), if_pos hk]
theorem own_close {e : EvC} (h : mayE e = true) (hk : e.k = 6) : ownE e = (e.e, e.ec, 0, true) := by unfold ownE; rw [if_pos h, if_neg (by omega), if_neg (by omega), if_pos hk]
theorem own_up {e : EvC} (h : mayE e = true) (hk : e.k = 7) : ownE e = ([], 0, 0, false) := by unfold ownE; rw [if_pos h, if_neg (by omega), if_neg (by omega), if_neg (by omega)]
def evl (l : List EvC) : List (List AV) := l.map EvC.cs
theorem gdE (l : List EvC) (i : Nat) (h : i < l.length) : (evl l).getD i [] = (l.getD i default).cs := by simp [evl, List.getD, h]
theorem evl_len (l : List EvC) : (evl l).length = l.length := by simp [evl]
set_option maxHeartbeats 8000000 in
theorem p_eOwn (e : EvC) (h1 : e.p.s.length ≤ 1000000) (h2 : e.p.d.length ≤ 1000000) (h3 : e.p.x.length ≤ 1000000) (h4 : e.e.length ≤ 1000000) (h5 : e.a.length ≤ 1000000) : CP Try.prog 30 [.agg e.cs] (.tup [.agg [.str (ownE e).1, .int .i64 (ownE e).2.1], .int .i64 (ownE e).2.2.1, .bool (ownE e).2.2.2]) := by
  have hM := p_eMay e h1 h2 h3 h4 h5
  refine ok_event_Own _ _ (by simp) ?_
  by_cases hm : mayE e = true
  rotate_left
  · have hm' : mayE e = false := by simpa using hm
    rw [own_no hm']
    rw [hm'] at hM
    clear hm hm'
    simp only [c_event_Own, ↓Ed, Eu, ↓reduceIte, reduceCtorEq, Nat.reduceAdd, Nat.reduceEqDiff, Nat.reduceLT, Nat.reduceLeDiff, Int.reduceToNat, Int.reduceEq, Int.reduceLT, Int.reduceLE, w64, List.length_append, List.length_map, Nat.mul_one, beq_self_eq_true, PktC.cs, EvC.cs, st_nil, gdE, evl_len]
    repeat' ((first | refine CallO_pure (hM) ?_ | refine NewB_intro0 (fun b => ?_) | (refine NewB_intro (fun b hb => ?_); simp only [ln_cons2, ln_nil, and_true] at hb) | (with_reducible apply wA; focus exact OM_a) | ((first | refine gW_sp ?_ | refine condW_sp ?_ | refine pickW_sp ?_); (try refine Sp_n ?_); (first | refine wT ?_ | refine wF ?_ | refine wL (fun h h' => ?_) (fun h h' => ?_) | refine wE (fun h h' => ?_) (fun h h' => ?_) | refine Sp_split (fun h => ?_) (fun h => ?_)) <;> (try (exfalso; omega))) | refine TreeW_intro (by rfl) ?_ | refine TreeW_all ?_ | refine upQ_intro ?_ | refine Two_intro ?_ ?_ | exact wK | exact wD | (simp only [Fact, Bool.not_eq_true', Bool.not_eq_false', decide_eq_true_eq, decide_eq_false_iff_not] at *; exact wD) | (show (_ : Nat) ≤ _; omega)) <;> (try simp (disch := omega) only [*, ↓Ed, Eu, ↓reduceIte, reduceCtorEq, Nat.reduceAdd, Nat.reduceEqDiff, Nat.reduceLT, Nat.reduceLeDiff, Int.reduceToNat, Int.reduceEq, Int.reduceLT, Int.reduceLE, w64, List.length_append, List.length_map, Nat.mul_one, beq_self_eq_true, PktC.cs, EvC.cs, st_nil, gdE, evl_len]))
  have hr := may_range hm
  rcases kfacts e.k with ⟨k1, k2, k3, k4, k5, k6, k7, k8, k9, k10, k11, k12⟩ | ⟨k1, k2, k3, k4, k5, k6, k7, k8, k9, k10, k11, k12⟩ | ⟨k1, k2, k3, k4, k5, k6, k7, k8, k9, k10, k11, k12⟩ | ⟨k1, k2, k3, k4, k5, k6, k7, k8, k9, k10, k11, k12⟩ | ⟨k1, k2, k3, k4, k5, k6, k7, k8, k9, k10, k11, k12⟩ | ⟨k1, k2, k3, k4, k5, k6, k7, k8, k9, k10, k11, k12⟩ | ⟨k1, k2, k3, k4, k5, k6, k7, k8, k9, k10, k11, k12⟩ | ⟨k1, k2, k3, k4, k5, k6, k7, k8, k9, k10, k11, k12⟩ | ⟨k1, k2, k3, k4, k5, k6, k7, k8, k9, k10, k11, k12⟩
  · rw [own_src hm (by have : e.k = 1 := k12; omega)]
    rw [hm] at hM
    clear hm hr k12
    simp only [c_event_Own, ↓Ed, Eu, ↓reduceIte, reduceCtorEq, Nat.reduceAdd, Nat.reduceEqDiff, Nat.reduceLT, Nat.reduceLeDiff, Int.reduceToNat, Int.reduceEq, Int.reduceLT, Int.reduceLE, w64, List.length_append, List.length_map, Nat.mul_one, beq_self_eq_true, PktC.cs, EvC.cs, st_nil, gdE, evl_len]
    repeat' ((first | refine CallO_pure (hM) ?_ | refine NewB_intro0 (fun b => ?_) | (refine NewB_intro (fun b hb => ?_); simp only [ln_cons2, ln_nil, and_true] at hb) | (with_reducible apply wA; focus exact OM_a) | ((first | refine gW_sp ?_ | refine condW_sp ?_ | refine pickW_sp ?_); (try refine Sp_n ?_); (first | refine wT ?_ | refine wF ?_ | refine wL (fun h h' => ?_) (fun h h' => ?_) | refine wE (fun h h' => ?_) (fun h h' => ?_) | refine Sp_split (fun h => ?_) (fun h => ?_)) <;> (try (exfalso; omega))) | refine TreeW_intro (by rfl) ?_ | refine TreeW_all ?_ | refine upQ_intro ?_ | refine Two_intro ?_ ?_ | exact wK | exact wD | (simp only [Fact, Bool.not_eq_true', Bool.not_eq_false', decide_eq_true_eq, decide_eq_false_iff_not] at *; exact wD) | (show (_ : Nat) ≤ _; omega)) <;> (try simp (disch := omega) only [*, ↓Ed, Eu, ↓reduceIte, reduceCtorEq, Nat.reduceAdd, Nat.reduceEqDiff, Nat.reduceLT, Nat.reduceLeDiff, Int.reduceToNat, Int.reduceEq, Int.reduceLT, Int.reduceLE, w64, List.length_append, List.length_map, Nat.mul_one, beq_self_eq_true, PktC.cs, EvC.cs, st_nil, gdE, evl_len]))
  · rw [own_dst hm (by have : e.k = 2 := k12; omega)]
    rw [hm] at hM
    clear hm hr k12
    simp only [c_event_Own, ↓Ed, Eu, ↓reduceIte, reduceCtorEq, Nat.reduceAdd, Nat.reduceEqDiff, Nat.reduceLT, Nat.reduceLeDiff, Int.reduceToNat, Int.reduceEq, Int.reduceLT, Int.reduceLE, w64, List.length_append, List.length_map, Nat.mul_one, beq_self_eq_true, PktC.cs, EvC.cs, st_nil, gdE, evl_len]
    repeat' ((first | refine CallO_pure (hM) ?_ | refine NewB_intro0 (fun b => ?_) | (refine NewB_intro (fun b hb => ?_); simp only [ln_cons2, ln_nil, and_true] at hb) | (with_reducible apply wA; focus exact OM_a) | ((first | refine gW_sp ?_ | refine condW_sp ?_ | refine pickW_sp ?_); (try refine Sp_n ?_); (first | refine wT ?_ | refine wF ?_ | refine wL (fun h h' => ?_) (fun h h' => ?_) | refine wE (fun h h' => ?_) (fun h h' => ?_) | refine Sp_split (fun h => ?_) (fun h => ?_)) <;> (try (exfalso; omega))) | refine TreeW_intro (by rfl) ?_ | refine TreeW_all ?_ | refine upQ_intro ?_ | refine Two_intro ?_ ?_ | exact wK | exact wD | (simp only [Fact, Bool.not_eq_true', Bool.not_eq_false', decide_eq_true_eq, decide_eq_false_iff_not] at *; exact wD) | (show (_ : Nat) ≤ _; omega)) <;> (try simp (disch := omega) only [*, ↓Ed, Eu, ↓reduceIte, reduceCtorEq, Nat.reduceAdd, Nat.reduceEqDiff, Nat.reduceLT, Nat.reduceLeDiff, Int.reduceToNat, Int.reduceEq, Int.reduceLT, Int.reduceLE, w64, List.length_append, List.length_map, Nat.mul_one, beq_self_eq_true, PktC.cs, EvC.cs, st_nil, gdE, evl_len]))
  · rw [own_src hm (by have : e.k = 4 := k12; omega)]
    rw [hm] at hM
    clear hm hr k12
    simp only [c_event_Own, ↓Ed, Eu, ↓reduceIte, reduceCtorEq, Nat.reduceAdd, Nat.reduceEqDiff, Nat.reduceLT, Nat.reduceLeDiff, Int.reduceToNat, Int.reduceEq, Int.reduceLT, Int.reduceLE, w64, List.length_append, List.length_map, Nat.mul_one, beq_self_eq_true, PktC.cs, EvC.cs, st_nil, gdE, evl_len]
    repeat' ((first | refine CallO_pure (hM) ?_ | refine NewB_intro0 (fun b => ?_) | (refine NewB_intro (fun b hb => ?_); simp only [ln_cons2, ln_nil, and_true] at hb) | (with_reducible apply wA; focus exact OM_a) | ((first | refine gW_sp ?_ | refine condW_sp ?_ | refine pickW_sp ?_); (try refine Sp_n ?_); (first | refine wT ?_ | refine wF ?_ | refine wL (fun h h' => ?_) (fun h h' => ?_) | refine wE (fun h h' => ?_) (fun h h' => ?_) | refine Sp_split (fun h => ?_) (fun h => ?_)) <;> (try (exfalso; omega))) | refine TreeW_intro (by rfl) ?_ | refine TreeW_all ?_ | refine upQ_intro ?_ | refine Two_intro ?_ ?_ | exact wK | exact wD | (simp only [Fact, Bool.not_eq_true', Bool.not_eq_false', decide_eq_true_eq, decide_eq_false_iff_not] at *; exact wD) | (show (_ : Nat) ≤ _; omega)) <;> (try simp (disch := omega) only [*, ↓Ed, Eu, ↓reduceIte, reduceCtorEq, Nat.reduceAdd, Nat.reduceEqDiff, Nat.reduceLT, Nat.reduceLeDiff, Int.reduceToNat, Int.reduceEq, Int.reduceLT, Int.reduceLE, w64, List.length_append, List.length_map, Nat.mul_one, beq_self_eq_true, PktC.cs, EvC.cs, st_nil, gdE, evl_len]))
  · rw [own_src hm (by have : e.k = 5 := k12; omega)]
    rw [hm] at hM
    clear hm hr k12
    simp only [c_event_Own, ↓Ed, Eu, ↓reduceIte, reduceCtorEq, Nat.reduceAdd, Nat.reduceEqDiff, Nat.reduceLT, Nat.reduceLeDiff, Int.reduceToNat, Int.reduceEq, Int.reduceLT, Int.reduceLE, w64, List.length_append, List.length_map, Nat.mul_one, beq_self_eq_true, PktC.cs, EvC.cs, st_nil, gdE, evl_len]
    repeat' ((first | refine CallO_pure (hM) ?_ | refine NewB_intro0 (fun b => ?_) | (refine NewB_intro (fun b hb => ?_); simp only [ln_cons2, ln_nil, and_true] at hb) | (with_reducible apply wA; focus exact OM_a) | ((first | refine gW_sp ?_ | refine condW_sp ?_ | refine pickW_sp ?_); (try refine Sp_n ?_); (first | refine wT ?_ | refine wF ?_ | refine wL (fun h h' => ?_) (fun h h' => ?_) | refine wE (fun h h' => ?_) (fun h h' => ?_) | refine Sp_split (fun h => ?_) (fun h => ?_)) <;> (try (exfalso; omega))) | refine TreeW_intro (by rfl) ?_ | refine TreeW_all ?_ | refine upQ_intro ?_ | refine Two_intro ?_ ?_ | exact wK | exact wD | (simp only [Fact, Bool.not_eq_true', Bool.not_eq_false', decide_eq_true_eq, decide_eq_false_iff_not] at *; exact wD) | (show (_ : Nat) ≤ _; omega)) <;> (try simp (disch := omega) only [*, ↓Ed, Eu, ↓reduceIte, reduceCtorEq, Nat.reduceAdd, Nat.reduceEqDiff, Nat.reduceLT, Nat.reduceLeDiff, Int.reduceToNat, Int.reduceEq, Int.reduceLT, Int.reduceLE, w64, List.length_append, List.length_map, Nat.mul_one, beq_self_eq_true, PktC.cs, EvC.cs, st_nil, gdE, evl_len]))
  · rw [own_dst hm (by have : e.k = 3 := k12; omega)]
    rw [hm] at hM
    clear hm hr k12
    simp only [c_event_Own, ↓Ed, Eu, ↓reduceIte, reduceCtorEq, Nat.reduceAdd, Nat.reduceEqDiff, Nat.reduceLT, Nat.reduceLeDiff, Int.reduceToNat, Int.reduceEq, Int.reduceLT, Int.reduceLE, w64, List.length_append, List.length_map, Nat.mul_one, beq_self_eq_true, PktC.cs, EvC.cs, st_nil, gdE, evl_len]
    repeat' ((first | refine CallO_pure (hM) ?_ | refine NewB_intro0 (fun b => ?_) | (refine NewB_intro (fun b hb => ?_); simp only [ln_cons2, ln_nil, and_true] at hb) | (with_reducible apply wA; focus exact OM_a) | ((first | refine gW_sp ?_ | refine condW_sp ?_ | refine pickW_sp ?_); (try refine Sp_n ?_); (first | refine wT ?_ | refine wF ?_ | refine wL (fun h h' => ?_) (fun h h' => ?_) | refine wE (fun h h' => ?_) (fun h h' => ?_) | refine Sp_split (fun h => ?_) (fun h => ?_)) <;> (try (exfalso; omega))) | refine TreeW_intro (by rfl) ?_ | refine TreeW_all ?_ | refine upQ_intro ?_ | refine Two_intro ?_ ?_ | exact wK | exact wD | (simp only [Fact, Bool.not_eq_true', Bool.not_eq_false', decide_eq_true_eq, decide_eq_false_iff_not] at *; exact wD) | (show (_ : Nat) ≤ _; omega)) <;> (try simp (disch := omega) only [*, ↓Ed, Eu, ↓reduceIte, reduceCtorEq, Nat.reduceAdd, Nat.reduceEqDiff, Nat.reduceLT, Nat.reduceLeDiff, Int.reduceToNat, Int.reduceEq, Int.reduceLT, Int.reduceLE, w64, List.length_append, List.length_map, Nat.mul_one, beq_self_eq_true, PktC.cs, EvC.cs, st_nil, gdE, evl_len]))
  · rw [own_close hm k12]
    rw [hm] at hM
    clear hm hr k12
    simp only [c_event_Own, ↓Ed, Eu, ↓reduceIte, reduceCtorEq, Nat.reduceAdd, Nat.reduceEqDiff, Nat.reduceLT, Nat.reduceLeDiff, Int.reduceToNat, Int.reduceEq, Int.reduceLT, Int.reduceLE, w64, List.length_append, List.length_map, Nat.mul_one, beq_self_eq_true, PktC.cs, EvC.cs, st_nil, gdE, evl_len]
    repeat' ((first | refine CallO_pure (hM) ?_ | refine NewB_intro0 (fun b => ?_) | (refine NewB_intro (fun b hb => ?_); simp only [ln_cons2, ln_nil, and_true] at hb) | (with_reducible apply wA; focus exact OM_a) | ((first | refine gW_sp ?_ | refine condW_sp ?_ | refine pickW_sp ?_); (try refine Sp_n ?_); (first | refine wT ?_ | refine wF ?_ | refine wL (fun h h' => ?_) (fun h h' => ?_) | refine wE (fun h h' => ?_) (fun h h' => ?_) | refine Sp_split (fun h => ?_) (fun h => ?_)) <;> (try (exfalso; omega))) | refine TreeW_intro (by rfl) ?_ | refine TreeW_all ?_ | refine upQ_intro ?_ | refine Two_intro ?_ ?_ | exact wK | exact wD | (simp only [Fact, Bool.not_eq_true', Bool.not_eq_false', decide_eq_true_eq, decide_eq_false_iff_not] at *; exact wD) | (show (_ : Nat) ≤ _; omega)) <;> (try simp (disch := omega) only [*, ↓Ed, Eu, ↓reduceIte, reduceCtorEq, Nat.reduceAdd, Nat.reduceEqDiff, Nat.reduceLT, Nat.reduceLeDiff, Int.reduceToNat, Int.reduceEq, Int.reduceLT, Int.reduceLE, w64, List.length_append, List.length_map, Nat.mul_one, beq_self_eq_true, PktC.cs, EvC.cs, st_nil, gdE, evl_len]))
  · rw [own_up hm k12]
    rw [hm] at hM
    clear hm hr k12
    simp only [c_event_Own, ↓Ed, Eu, ↓reduceIte, reduceCtorEq, Nat.reduceAdd, Nat.reduceEqDiff, Nat.reduceLT, Nat.reduceLeDiff, Int.reduceToNat, Int.reduceEq, Int.reduceLT, Int.reduceLE, w64, List.length_append, List.length_map, Nat.mul_one, beq_self_eq_true, PktC.cs, EvC.cs, st_nil, gdE, evl_len]
    repeat' ((first | refine CallO_pure (hM) ?_ | refine NewB_intro0 (fun b => ?_) | (refine NewB_intro (fun b hb => ?_); simp only [ln_cons2, ln_nil, and_true] at hb) | (with_reducible apply wA; focus exact OM_a) | ((first | refine gW_sp ?_ | refine condW_sp ?_ | refine pickW_sp ?_); (try refine Sp_n ?_); (first | refine wT ?_ | refine wF ?_ | refine wL (fun h h' => ?_) (fun h h' => ?_) | refine wE (fun h h' => ?_) (fun h h' => ?_) | refine Sp_split (fun h => ?_) (fun h => ?_)) <;> (try (exfalso; omega))) | refine TreeW_intro (by rfl) ?_ | refine TreeW_all ?_ | refine upQ_intro ?_ | refine Two_intro ?_ ?_ | exact wK | exact wD | (simp only [Fact, Bool.not_eq_true', Bool.not_eq_false', decide_eq_true_eq, decide_eq_false_iff_not] at *; exact wD) | (show (_ : Nat) ≤ _; omega)) <;> (try simp (disch := omega) only [*, ↓Ed, Eu, ↓reduceIte, reduceCtorEq, Nat.reduceAdd, Nat.reduceEqDiff, Nat.reduceLT, Nat.reduceLeDiff, Int.reduceToNat, Int.reduceEq, Int.reduceLT, Int.reduceLE, w64, List.length_append, List.length_map, Nat.mul_one, beq_self_eq_true, PktC.cs, EvC.cs, st_nil, gdE, evl_len]))
  · have : e.k < 1 := k12
    omega
  · have : 7 < e.k := k12
    omega
set_option maxHeartbeats 8000000 in
theorem p_rOwn (e : EvC) (h1 : e.p.s.length ≤ 1000000) (h2 : e.p.d.length ≤ 1000000) (h3 : e.p.x.length ≤ 1000000) (h4 : e.e.length ≤ 1000000) (h5 : e.a.length ≤ 1000000) : CP Try.prog 20 [.agg e.cs] (.tup [.agg [.str (ownE e).1, .int .i64 (ownE e).2.1], .int .i64 (ownE e).2.2.1, .bool (ownE e).2.2.2]) := by
  have hM := p_rMayE e h1 h2 h3 h4 h5
  refine ok_ligref1_Own _ _ (by simp) ?_
  by_cases hm : mayE e = true
  rotate_left
  · have hm' : mayE e = false := by simpa using hm
    rw [own_no hm']
    rw [hm'] at hM
    clear hm hm'
    simp only [c_ligref1_Own, ↓Ed, Eu, ↓reduceIte, reduceCtorEq, Nat.reduceAdd, Nat.reduceEqDiff, Nat.reduceLT, Nat.reduceLeDiff, Int.reduceToNat, Int.reduceEq, Int.reduceLT, Int.reduceLE, w64, List.length_append, List.length_map, Nat.mul_one, beq_self_eq_true, PktC.cs, EvC.cs, st_nil, gdE, evl_len]
    repeat' ((first | refine CallO_pure (hM) ?_ | refine NewB_intro0 (fun b => ?_) | (refine NewB_intro (fun b hb => ?_); simp only [ln_cons2, ln_nil, and_true] at hb) | (with_reducible apply wA; focus exact OM_a) | ((first | refine gW_sp ?_ | refine condW_sp ?_ | refine pickW_sp ?_); (try refine Sp_n ?_); (first | refine wT ?_ | refine wF ?_ | refine wL (fun h h' => ?_) (fun h h' => ?_) | refine wE (fun h h' => ?_) (fun h h' => ?_) | refine Sp_split (fun h => ?_) (fun h => ?_)) <;> (try (exfalso; omega))) | refine TreeW_intro (by rfl) ?_ | refine TreeW_all ?_ | refine upQ_intro ?_ | refine Two_intro ?_ ?_ | exact wK | exact wD | (simp only [Fact, Bool.not_eq_true', Bool.not_eq_false', decide_eq_true_eq, decide_eq_false_iff_not] at *; exact wD) | (show (_ : Nat) ≤ _; omega)) <;> (try simp (disch := omega) only [*, ↓Ed, Eu, ↓reduceIte, reduceCtorEq, Nat.reduceAdd, Nat.reduceEqDiff, Nat.reduceLT, Nat.reduceLeDiff, Int.reduceToNat, Int.reduceEq, Int.reduceLT, Int.reduceLE, w64, List.length_append, List.length_map, Nat.mul_one, beq_self_eq_true, PktC.cs, EvC.cs, st_nil, gdE, evl_len]))
  have hr := may_range hm
  rcases kfacts e.k with ⟨k1, k2, k3, k4, k5, k6, k7, k8, k9, k10, k11, k12⟩ | ⟨k1, k2, k3, k4, k5, k6, k7, k8, k9, k10, k11, k12⟩ | ⟨k1, k2, k3, k4, k5, k6, k7, k8, k9, k10, k11, k12⟩ | ⟨k1, k2, k3, k4, k5, k6, k7, k8, k9, k10, k11, k12⟩ | ⟨k1, k2, k3, k4, k5, k6, k7, k8, k9, k10, k11, k12⟩ | ⟨k1, k2, k3, k4, k5, k6, k7, k8, k9, k10, k11, k12⟩ | ⟨k1, k2, k3, k4, k5, k6, k7, k8, k9, k10, k11, k12⟩ | ⟨k1, k2, k3, k4, k5, k6, k7, k8, k9, k10, k11, k12⟩ | ⟨k1, k2, k3, k4, k5, k6, k7, k8, k9, k10, k11, k12⟩
  · rw [own_src hm (by have : e.k = 1 := k12; omega)]
    rw [hm] at hM
    clear hm hr k12
    simp only [c_ligref1_Own, ↓Ed, Eu, ↓reduceIte, reduceCtorEq, Nat.reduceAdd, Nat.reduceEqDiff, Nat.reduceLT, Nat.reduceLeDiff, Int.reduceToNat, Int.reduceEq, Int.reduceLT, Int.reduceLE, w64, List.length_append, List.length_map, Nat.mul_one, beq_self_eq_true, PktC.cs, EvC.cs, st_nil, gdE, evl_len]
    repeat' ((first | refine CallO_pure (hM) ?_ | refine NewB_intro0 (fun b => ?_) | (refine NewB_intro (fun b hb => ?_); simp only [ln_cons2, ln_nil, and_true] at hb) | (with_reducible apply wA; focus exact OM_a) | ((first | refine gW_sp ?_ | refine condW_sp ?_ | refine pickW_sp ?_); (try refine Sp_n ?_); (first | refine wT ?_ | refine wF ?_ | refine wL (fun h h' => ?_) (fun h h' => ?_) | refine wE (fun h h' => ?_) (fun h h' => ?_) | refine Sp_split (fun h => ?_) (fun h => ?_)) <;> (try (exfalso; omega))) | refine TreeW_intro (by rfl) ?_ | refine TreeW_all ?_ | refine upQ_intro ?_ | refine Two_intro ?_ ?_ | exact wK | exact wD | (simp only [Fact, Bool.not_eq_true', Bool.not_eq_false', decide_eq_true_eq, decide_eq_false_iff_not] at *; exact wD) | (show (_ : Nat) ≤ _; omega)) <;> (try simp (disch := omega) only [*, ↓Ed, Eu, ↓reduceIte, reduceCtorEq, Nat.reduceAdd, Nat.reduceEqDiff, Nat.reduceLT, Nat.reduceLeDiff, Int.reduceToNat, Int.reduceEq, Int.reduceLT, Int.reduceLE, w64, List.length_append, List.length_map, Nat.mul_one, beq_self_eq_true, PktC.cs, EvC.cs, st_nil, gdE, evl_len]))
  · rw [own_dst hm (by have : e.k = 2 := k12; omega)]
    rw [hm] at hM
    clear hm hr k12
    simp only [c_ligref1_Own, ↓Ed, Eu, ↓reduceIte, reduceCtorEq, Nat.reduceAdd, Nat.reduceEqDiff, Nat.reduceLT, Nat.reduceLeDiff, Int.reduceToNat, Int.reduceEq, Int.reduceLT, Int.reduceLE, w64, List.length_append, List.length_map, Nat.mul_one, beq_self_eq_true, PktC.cs, EvC.cs, st_nil, gdE, evl_len]
    repeat' ((first | refine CallO_pure (hM) ?_ | refine NewB_intro0 (fun b => ?_) | (refine NewB_intro (fun b hb => ?_); simp only [ln_cons2, ln_nil, and_true] at hb) | (with_reducible apply wA; focus exact OM_a) | ((first | refine gW_sp ?_ | refine condW_sp ?_ | refine pickW_sp ?_); (try refine Sp_n ?_); (first | refine wT ?_ | refine wF ?_ | refine wL (fun h h' => ?_) (fun h h' => ?_) | refine wE (fun h h' => ?_) (fun h h' => ?_) | refine Sp_split (fun h => ?_) (fun h => ?_)) <;> (try (exfalso; omega))) | refine TreeW_intro (by rfl) ?_ | refine TreeW_all ?_ | refine upQ_intro ?_ | refine Two_intro ?_ ?_ | exact wK | exact wD | (simp only [Fact, Bool.not_eq_true', Bool.not_eq_false', decide_eq_true_eq, decide_eq_false_iff_not] at *; exact wD) | (show (_ : Nat) ≤ _; omega)) <;> (try simp (disch := omega) only [*, ↓Ed, Eu, ↓reduceIte, reduceCtorEq, Nat.reduceAdd, Nat.reduceEqDiff, Nat.reduceLT, Nat.reduceLeDiff, Int.reduceToNat, Int.reduceEq, Int.reduceLT, Int.reduceLE, w64, List.length_append, List.length_map, Nat.mul_one, beq_self_eq_true, PktC.cs, EvC.cs, st_nil, gdE, evl_len]))
  · rw [own_src hm (by have : e.k = 4 := k12; omega)]
    rw [hm] at hM
    clear hm hr k12
    simp only [c_ligref1_Own, ↓Ed, Eu, ↓reduceIte, reduceCtorEq, Nat.reduceAdd, Nat.reduceEqDiff, Nat.reduceLT, Nat.reduceLeDiff, Int.reduceToNat, Int.reduceEq, Int.reduceLT, Int.reduceLE, w64, List.length_append, List.length_map, Nat.mul_one, beq_self_eq_true, PktC.cs, EvC.cs, st_nil, gdE, evl_len]
    repeat' ((first | refine CallO_pure (hM) ?_ | refine NewB_intro0 (fun b => ?_) | (refine NewB_intro (fun b hb => ?_); simp only [ln_cons2, ln_nil, and_true] at hb) | (with_reducible apply wA; focus exact OM_a) | ((first | refine gW_sp ?_ | refine condW_sp ?_ | refine pickW_sp ?_); (try refine Sp_n ?_); (first | refine wT ?_ | refine wF ?_ | refine wL (fun h h' => ?_) (fun h h' => ?_) | refine wE (fun h h' => ?_) (fun h h' => ?_) | refine Sp_split (fun h => ?_) (fun h => ?_)) <;> (try (exfalso; omega))) | refine TreeW_intro (by rfl) ?_ | refine TreeW_all ?_ | refine upQ_intro ?_ | refine Two_intro ?_ ?_ | exact wK | exact wD | (simp only [Fact, Bool.not_eq_true', Bool.not_eq_false', decide_eq_true_eq, decide_eq_false_iff_not] at *; exact wD) | (show (_ : Nat) ≤ _; omega)) <;> (try simp (disch := omega) only [*, ↓Ed, Eu, ↓reduceIte, reduceCtorEq, Nat.reduceAdd, Nat.reduceEqDiff, Nat.reduceLT, Nat.reduceLeDiff, Int.reduceToNat, Int.reduceEq, Int.reduceLT, Int.reduceLE, w64, List.length_append, List.length_map, Nat.mul_one, beq_self_eq_true, PktC.cs, EvC.cs, st_nil, gdE, evl_len]))
  · rw [own_src hm (by have : e.k = 5 := k12; omega)]
    rw [hm] at hM
    clear hm hr k12
    simp only [c_ligref1_Own, ↓Ed, Eu, ↓reduceIte, reduceCtorEq, Nat.reduceAdd, Nat.reduceEqDiff, Nat.reduceLT, Nat.reduceLeDiff, Int.reduceToNat, Int.reduceEq, Int.reduceLT, Int.reduceLE, w64, List.length_append, List.length_map, Nat.mul_one, beq_self_eq_true, PktC.cs, EvC.cs, st_nil, gdE, evl_len]
    repeat' ((first | refine CallO_pure (hM) ?_ | refine NewB_intro0 (fun b => ?_) | (refine NewB_intro (fun b hb => ?_); simp only [ln_cons2, ln_nil, and_true] at hb) | (with_reducible apply wA; focus exact OM_a) | ((first | refine gW_sp ?_ | refine condW_sp ?_ | refine pickW_sp ?_); (try refine Sp_n ?_); (first | refine wT ?_ | refine wF ?_ | refine wL (fun h h' => ?_) (fun h h' => ?_) | refine wE (fun h h' => ?_) (fun h h' => ?_) | refine Sp_split (fun h => ?_) (fun h => ?_)) <;> (try (exfalso; omega))) | refine TreeW_intro (by rfl) ?_ | refine TreeW_all ?_ | refine upQ_intro ?_ | refine Two_intro ?_ ?_ | exact wK | exact wD | (simp only [Fact, Bool.not_eq_true', Bool.not_eq_false', decide_eq_true_eq, decide_eq_false_iff_not] at *; exact wD) | (show (_ : Nat) ≤ _; omega)) <;> (try simp (disch := omega) only [*, ↓Ed, Eu, ↓reduceIte, reduceCtorEq, Nat.reduceAdd, Nat.reduceEqDiff, Nat.reduceLT, Nat.reduceLeDiff, Int.reduceToNat, Int.reduceEq, Int.reduceLT, Int.reduceLE, w64, List.length_append, List.length_map, Nat.mul_one, beq_self_eq_true, PktC.cs, EvC.cs, st_nil, gdE, evl_len]))
  · rw [own_dst hm (by have : e.k = 3 := k12; omega)]
    rw [hm] at hM
    clear hm hr k12
    simp only [c_ligref1_Own, ↓Ed, Eu, ↓reduceIte, reduceCtorEq, Nat.reduceAdd, Nat.reduceEqDiff, Nat.reduceLT, Nat.reduceLeDiff, Int.reduceToNat, Int.reduceEq, Int.reduceLT, Int.reduceLE, w64, List.length_append, List.length_map, Nat.mul_one, beq_self_eq_true, PktC.cs, EvC.cs, st_nil, gdE, evl_len]
    repeat' ((first | refine CallO_pure (hM) ?_ | refine NewB_intro0 (fun b => ?_) | (refine NewB_intro (fun b hb => ?_); simp only [ln_cons2, ln_nil, and_true] at hb) | (with_reducible apply wA; focus exact OM_a) | ((first | refine gW_sp ?_ | refine condW_sp ?_ | refine pickW_sp ?_); (try refine Sp_n ?_); (first | refine wT ?_ | refine wF ?_ | refine wL (fun h h' => ?_) (fun h h' => ?_) | refine wE (fun h h' => ?_) (fun h h' => ?_) | refine Sp_split (fun h => ?_) (fun h => ?_)) <;> (try (exfalso; omega))) | refine TreeW_intro (by rfl) ?_ | refine TreeW_all ?_ | refine upQ_intro ?_ | refine Two_intro ?_ ?_ | exact wK | exact wD | (simp only [Fact, Bool.not_eq_true', Bool.not_eq_false', decide_eq_true_eq, decide_eq_false_iff_not] at *; exact wD) | (show (_ : Nat) ≤ _; omega)) <;> (try simp (disch := omega) only [*, ↓Ed, Eu, ↓reduceIte, reduceCtorEq, Nat.reduceAdd, Nat.reduceEqDiff, Nat.reduceLT, Nat.reduceLeDiff, Int.reduceToNat, Int.reduceEq, Int.reduceLT, Int.reduceLE, w64, List.length_append, List.length_map, Nat.mul_one, beq_self_eq_true, PktC.cs, EvC.cs, st_nil, gdE, evl_len]))
  · rw [own_close hm k12]
    rw [hm] at hM
    clear hm hr k12
    simp only [c_ligref1_Own, ↓Ed, Eu, ↓reduceIte, reduceCtorEq, Nat.reduceAdd, Nat.reduceEqDiff, Nat.reduceLT, Nat.reduceLeDiff, Int.reduceToNat, Int.reduceEq, Int.reduceLT, Int.reduceLE, w64, List.length_append, List.length_map, Nat.mul_one, beq_self_eq_true, PktC.cs, EvC.cs, st_nil, gdE, evl_len]
    repeat' ((first | refine CallO_pure (hM) ?_ | refine NewB_intro0 (fun b => ?_) | (refine NewB_intro (fun b hb => ?_); simp only [ln_cons2, ln_nil, and_true] at hb) | (with_reducible apply wA; focus exact OM_a) | ((first | refine gW_sp ?_ | refine condW_sp ?_ | refine pickW_sp ?_); (try refine Sp_n ?_); (first | refine wT ?_ | refine wF ?_ | refine wL (fun h h' => ?_) (fun h h' => ?_) | refine wE (fun h h' => ?_) (fun h h' => ?_) | refine Sp_split (fun h => ?_) (fun h => ?_)) <;> (try (exfalso; omega))) | refine TreeW_intro (by rfl) ?_ | refine TreeW_all ?_ | refine upQ_intro ?_ | refine Two_intro ?_ ?_ | exact wK | exact wD | (simp only [Fact, Bool.not_eq_true', Bool.not_eq_false', decide_eq_true_eq, decide_eq_false_iff_not] at *; exact wD) | (show (_ : Nat) ≤ _; omega)) <;> (try simp (disch := omega) only [*, ↓Ed, Eu, ↓reduceIte, reduceCtorEq, Nat.reduceAdd, Nat.reduceEqDiff, Nat.reduceLT, Nat.reduceLeDiff, Int.reduceToNat, Int.reduceEq, Int.reduceLT, Int.reduceLE, w64, List.length_append, List.length_map, Nat.mul_one, beq_self_eq_true, PktC.cs, EvC.cs, st_nil, gdE, evl_len]))
  · rw [own_up hm k12]
    rw [hm] at hM
    clear hm hr k12
    simp only [c_ligref1_Own, ↓Ed, Eu, ↓reduceIte, reduceCtorEq, Nat.reduceAdd, Nat.reduceEqDiff, Nat.reduceLT, Nat.reduceLeDiff, Int.reduceToNat, Int.reduceEq, Int.reduceLT, Int.reduceLE, w64, List.length_append, List.length_map, Nat.mul_one, beq_self_eq_true, PktC.cs, EvC.cs, st_nil, gdE, evl_len]
    repeat' ((first | refine CallO_pure (hM) ?_ | refine NewB_intro0 (fun b => ?_) | (refine NewB_intro (fun b hb => ?_); simp only [ln_cons2, ln_nil, and_true] at hb) | (with_reducible apply wA; focus exact OM_a) | ((first | refine gW_sp ?_ | refine condW_sp ?_ | refine pickW_sp ?_); (try refine Sp_n ?_); (first | refine wT ?_ | refine wF ?_ | refine wL (fun h h' => ?_) (fun h h' => ?_) | refine wE (fun h h' => ?_) (fun h h' => ?_) | refine Sp_split (fun h => ?_) (fun h => ?_)) <;> (try (exfalso; omega))) | refine TreeW_intro (by rfl) ?_ | refine TreeW_all ?_ | refine upQ_intro ?_ | refine Two_intro ?_ ?_ | exact wK | exact wD | (simp only [Fact, Bool.not_eq_true', Bool.not_eq_false', decide_eq_true_eq, decide_eq_false_iff_not] at *; exact wD) | (show (_ : Nat) ≤ _; omega)) <;> (try simp (disch := omega) only [*, ↓Ed, Eu, ↓reduceIte, reduceCtorEq, Nat.reduceAdd, Nat.reduceEqDiff, Nat.reduceLT, Nat.reduceLeDiff, Int.reduceToNat, Int.reduceEq, Int.reduceLT, Int.reduceLE, w64, List.length_append, List.length_map, Nat.mul_one, beq_self_eq_true, PktC.cs, EvC.cs, st_nil, gdE, evl_len]))
  · have : e.k < 1 := k12
    omega
  · have : 7 < e.k := k12
    omega
def lightP (p : PktC) : Prop := p.s.length ≤ 60 ∧ p.d.length ≤ 60 ∧ p.x.length ≤ 600
instance (p : PktC) : Decidable (lightP p) := by unfold lightP; infer_instance
theorem p_LightP (p : PktC) : CP Try.prog 26 [.agg p.cs] (.bool (decide (lightP p))) := by
  refine ok_ligkeep_LightPacket _ _ (by simp) ?_
  by_cases h : lightP p
  · rw [decide_eq_true h]
    obtain ⟨h1, h2, h3⟩ := h
    have f1 : Fact (decide ((p.s.length : Int) ≤ 60) = true) := by simp only [Fact, Bool.not_eq_true', Bool.not_eq_false', decide_eq_true_eq, decide_eq_false_iff_not]; omega
    have f2 : Fact (decide ((p.d.length : Int) ≤ 60) = true) := by simp only [Fact, Bool.not_eq_true', Bool.not_eq_false', decide_eq_true_eq, decide_eq_false_iff_not]; omega
    have f3 : Fact (decide ((p.x.length : Int) ≤ 600) = true) := by simp only [Fact, Bool.not_eq_true', Bool.not_eq_false', decide_eq_true_eq, decide_eq_false_iff_not]; omega
    simp only [c_ligkeep_LightPacket, ↓Ed, Eu, ↓reduceIte, reduceCtorEq, Nat.reduceAdd, Nat.reduceEqDiff, Nat.reduceLT, Nat.reduceLeDiff, Int.reduceToNat, Int.reduceEq, Int.reduceLT, Int.reduceLE, w64, List.length_append, List.length_map, Nat.mul_one, beq_self_eq_true, PktC.cs, EvC.cs, st_nil, gdE, evl_len]
    repeat' ((first | refine NewB_intro0 (fun b => ?_) | (refine NewB_intro (fun b hb => ?_); simp only [ln_cons2, ln_nil, and_true] at hb) | (with_reducible apply wA; focus exact OM_a) | ((first | refine gW_sp ?_ | refine condW_sp ?_ | refine pickW_sp ?_); (try refine Sp_n ?_); (first | refine wT ?_ | refine wF ?_ | refine wL (fun h h' => ?_) (fun h h' => ?_) | refine wE (fun h h' => ?_) (fun h h' => ?_) | refine Sp_split (fun h => ?_) (fun h => ?_)) <;> (try (exfalso; omega))) | refine TreeW_intro (by rfl) ?_ | refine TreeW_all ?_ | refine upQ_intro ?_ | refine Two_intro ?_ ?_ | exact wK | exact wD | (simp only [Fact, Bool.not_eq_true', Bool.not_eq_false', decide_eq_true_eq, decide_eq_false_iff_not] at *; exact wD) | (show (_ : Nat) ≤ _; omega)) <;> (try simp (disch := omega) only [*, ↓Ed, Eu, ↓reduceIte, reduceCtorEq, Nat.reduceAdd, Nat.reduceEqDiff, Nat.reduceLT, Nat.reduceLeDiff, Int.reduceToNat, Int.reduceEq, Int.reduceLT, Int.reduceLE, w64, List.length_append, List.length_map, Nat.mul_one, beq_self_eq_true, PktC.cs, EvC.cs, st_nil, gdE, evl_len]))
    all_goals (simp only [Fact, Bool.not_eq_true', Bool.not_eq_false', decide_eq_true_eq, decide_eq_false_iff_not] at *; omega)
  · rw [decide_eq_false h]
    have F : Fact (¬ (p.s.length ≤ 60 ∧ p.d.length ≤ 60 ∧ p.x.length ≤ 600)) := h
    clear h
    simp only [c_ligkeep_LightPacket, ↓Ed, Eu, ↓reduceIte, reduceCtorEq, Nat.reduceAdd, Nat.reduceEqDiff, Nat.reduceLT, Nat.reduceLeDiff, Int.reduceToNat, Int.reduceEq, Int.reduceLT, Int.reduceLE, w64, List.length_append, List.length_map, Nat.mul_one, beq_self_eq_true, PktC.cs, EvC.cs, st_nil, gdE, evl_len]
    repeat' ((first | refine NewB_intro0 (fun b => ?_) | (refine NewB_intro (fun b hb => ?_); simp only [ln_cons2, ln_nil, and_true] at hb) | (with_reducible apply wA; focus exact OM_a) | ((first | refine gW_sp ?_ | refine condW_sp ?_ | refine pickW_sp ?_); (try refine Sp_n ?_); (first | refine wT ?_ | refine wF ?_ | refine wL (fun h h' => ?_) (fun h h' => ?_) | refine wE (fun h h' => ?_) (fun h h' => ?_) | refine Sp_split (fun h => ?_) (fun h => ?_)) <;> (try (exfalso; omega))) | refine TreeW_intro (by rfl) ?_ | refine TreeW_all ?_ | refine upQ_intro ?_ | refine Two_intro ?_ ?_ | exact wK | exact wD | (simp only [Fact, Bool.not_eq_true', Bool.not_eq_false', decide_eq_true_eq, decide_eq_false_iff_not] at *; exact wD) | (show (_ : Nat) ≤ _; omega)) <;> (try simp (disch := omega) only [*, ↓Ed, Eu, ↓reduceIte, reduceCtorEq, Nat.reduceAdd, Nat.reduceEqDiff, Nat.reduceLT, Nat.reduceLeDiff, Int.reduceToNat, Int.reduceEq, Int.reduceLT, Int.reduceLE, w64, List.length_append, List.length_map, Nat.mul_one, beq_self_eq_true, PktC.cs, EvC.cs, st_nil, gdE, evl_len]))
    all_goals (simp only [Fact, Bool.not_eq_true', Bool.not_eq_false', decide_eq_true_eq, decide_eq_false_iff_not] at *; omega)
def lightE (e : EvC) : Prop := lightP e.p ∧ e.a.length ≤ 100 ∧ e.e.length ≤ 60
def lightEs (l : List EvC) : Prop := l.length ≤ 60 ∧ ∀ i, i < l.length → lightE (l.getD i default)
open Classical in
theorem p_LightEs (g : AV) (l : List EvC) (hg : g.alias = .sl none 13 (evl l)) (hl : l.length ≤ maxLen) : CP Try.prog 9 [g] (.bool (decide (lightEs l))) := by
  have hm : maxLen = 9223372036854775807 := rfl
  refine ok_ligkeep_LightEvents _ _ (by simp) ?_
  by_cases h6 : l.length ≤ 60
  rotate_left
  · have f1 : Fact (decide (60 < (l.length : Int)) = true) := by simp only [Fact, Bool.not_eq_true', Bool.not_eq_false', decide_eq_true_eq, decide_eq_false_iff_not]; omega
    rw [decide_eq_false (fun h => h6 h.1)]
    simp only [c_ligkeep_LightEvents, hg, ↓Ed, Eu, ↓reduceIte, reduceCtorEq, Nat.reduceAdd, Nat.reduceEqDiff, Nat.reduceLT, Nat.reduceLeDiff, Int.reduceToNat, Int.reduceEq, Int.reduceLT, Int.reduceLE, w64, List.length_append, List.length_map, Nat.mul_one, beq_self_eq_true, PktC.cs, EvC.cs, st_nil, gdE, evl_len]
    repeat' ((first | refine NewB_intro0 (fun b => ?_) | (refine NewB_intro (fun b hb => ?_); simp only [ln_cons2, ln_nil, and_true] at hb) | (with_reducible apply wA; focus exact OM_a) | ((first | refine gW_sp ?_ | refine condW_sp ?_ | refine pickW_sp ?_); (try refine Sp_n ?_); (first | refine wT ?_ | refine wF ?_ | refine wL (fun h h' => ?_) (fun h h' => ?_) | refine wE (fun h h' => ?_) (fun h h' => ?_) | refine Sp_split (fun h => ?_) (fun h => ?_)) <;> (try (exfalso; omega))) | refine TreeW_intro (by rfl) ?_ | refine TreeW_all ?_ | refine upQ_intro ?_ | refine Two_intro ?_ ?_ | exact wK | exact wD | (simp only [Fact, Bool.not_eq_true', Bool.not_eq_false', decide_eq_true_eq, decide_eq_false_iff_not] at *; exact wD) | (show (_ : Nat) ≤ _; omega)) <;> (try simp (disch := omega) only [*, ↓Ed, Eu, ↓reduceIte, reduceCtorEq, Nat.reduceAdd, Nat.reduceEqDiff, Nat.reduceLT, Nat.reduceLeDiff, Int.reduceToNat, Int.reduceEq, Int.reduceLT, Int.reduceLE, w64, List.length_append, List.length_map, Nat.mul_one, beq_self_eq_true, PktC.cs, EvC.cs, st_nil, gdE, evl_len]))
  have f1 : Fact (decide (60 < (l.length : Int)) = false) := by simp only [Fact, Bool.not_eq_true', Bool.not_eq_false', decide_eq_true_eq, decide_eq_false_iff_not]; omega
  simp only [c_ligkeep_LightEvents, hg, ↓Ed, Eu, ↓reduceIte, reduceCtorEq, Nat.reduceAdd, Nat.reduceEqDiff, Nat.reduceLT, Nat.reduceLeDiff, Int.reduceToNat, Int.reduceEq, Int.reduceLT, Int.reduceLE, w64, List.length_append, List.length_map, Nat.mul_one, beq_self_eq_true, PktC.cs, EvC.cs, st_nil, gdE, evl_len]
  repeat' ((first | refine NewB_intro0 (fun b => ?_) | (refine NewB_intro (fun b hb => ?_); simp only [ln_cons2, ln_nil, and_true] at hb) | (with_reducible apply wA; focus exact OM_a) | ((first | refine gW_sp ?_ | refine condW_sp ?_ | refine pickW_sp ?_); (try refine Sp_n ?_); (first | refine wT ?_ | refine wF ?_ | refine wL (fun h h' => ?_) (fun h h' => ?_) | refine wE (fun h h' => ?_) (fun h h' => ?_) | refine Sp_split (fun h => ?_) (fun h => ?_)) <;> (try (exfalso; omega))) | refine TreeW_intro (by rfl) ?_ | refine TreeW_all ?_ | refine upQ_intro ?_ | refine Two_intro ?_ ?_ | exact wK | exact wD | (simp only [Fact, Bool.not_eq_true', Bool.not_eq_false', decide_eq_true_eq, decide_eq_false_iff_not] at *; exact wD) | (show (_ : Nat) ≤ _; omega)) <;> (try simp (disch := omega) only [*, ↓Ed, Eu, ↓reduceIte, reduceCtorEq, Nat.reduceAdd, Nat.reduceEqDiff, Nat.reduceLT, Nat.reduceLeDiff, Int.reduceToNat, Int.reduceEq, Int.reduceLT, Int.reduceLE, w64, List.length_append, List.length_map, Nat.mul_one, beq_self_eq_true, PktC.cs, EvC.cs, st_nil, gdE, evl_len]))
  refine wpx_loop (fun k : Nat => ⟨lk [(0, .sl none 13 (evl l)), (3, .int .i64 (k : Int))], lk []⟩) (fun k => k ≤ l.length ∧ Fact (∀ i, i < k → lightE (l.getD i default))) (fun k => l.length - k) 0 ⟨by omega, fun i hi => by omega⟩ (Le_lit (by simp [LeL, lk])) ?_
  rintro k ⟨k1, k2⟩
  by_cases hk : k < l.length
  · have f5 : Fact (decide ((k : Int) < l.length) = true) := by simp only [Fact, Bool.not_eq_true', Bool.not_eq_false', decide_eq_true_eq, decide_eq_false_iff_not]; omega
    have hP := p_LightP (l.getD k default).p
    by_cases he : lightE (l.getD k default)
    · have hN : Fact (∀ i, i < k + 1 → lightE (l.getD i default)) := fun i hi => by
        by_cases e : i = k
        · subst e; exact he
        · exact k2 i (by omega)
      obtain ⟨e1, e2, e3⟩ := he
      rw [decide_eq_true e1] at hP
      have f6 : Fact (decide (100 < ((l.getD k default).a.length : Int)) = false) := by simp only [Fact, Bool.not_eq_true', Bool.not_eq_false', decide_eq_true_eq, decide_eq_false_iff_not]; omega
      have f7 : Fact (decide (60 < ((l.getD k default).e.length : Int)) = false) := by simp only [Fact, Bool.not_eq_true', Bool.not_eq_false', decide_eq_true_eq, decide_eq_false_iff_not]; omega
      clear k2 e1
      simp (disch := omega) only [↓Ed, Eu, ↓reduceIte, reduceCtorEq, Nat.reduceAdd, Nat.reduceEqDiff, Nat.reduceLT, Nat.reduceLeDiff, Int.reduceToNat, Int.reduceEq, Int.reduceLT, Int.reduceLE, w64, List.length_append, List.length_map, Nat.mul_one, beq_self_eq_true, PktC.cs, EvC.cs, st_nil, gdE, evl_len]
      repeat' ((first | refine CallO_pure (hP) ?_ | refine NewB_intro0 (fun b => ?_) | (refine NewB_intro (fun b hb => ?_); simp only [ln_cons2, ln_nil, and_true] at hb) | (with_reducible apply wA; focus exact OM_a) | ((first | refine gW_sp ?_ | refine condW_sp ?_ | refine pickW_sp ?_); (try refine Sp_n ?_); (first | refine wT ?_ | refine wF ?_ | refine wL (fun h h' => ?_) (fun h h' => ?_) | refine wE (fun h h' => ?_) (fun h h' => ?_) | refine Sp_split (fun h => ?_) (fun h => ?_)) <;> (try (exfalso; omega))) | refine TreeW_intro (by rfl) ?_ | refine TreeW_all ?_ | refine upQ_intro ?_ | refine Two_intro ?_ ?_ | exact wK | exact wD | (simp only [Fact, Bool.not_eq_true', Bool.not_eq_false', decide_eq_true_eq, decide_eq_false_iff_not] at *; exact wD) | (show (_ : Nat) ≤ _; omega)) <;> (try simp (disch := omega) only [*, ↓Ed, Eu, ↓reduceIte, reduceCtorEq, Nat.reduceAdd, Nat.reduceEqDiff, Nat.reduceLT, Nat.reduceLeDiff, Int.reduceToNat, Int.reduceEq, Int.reduceLT, Int.reduceLE, w64, List.length_append, List.length_map, Nat.mul_one, beq_self_eq_true, PktC.cs, EvC.cs, st_nil, gdE, evl_len]))
      all_goals exact Round_lit (k + 1) ⟨Le_lit (by simp [LeL, lk]), ⟨by omega, hN⟩, by omega⟩
    · rw [decide_eq_false (fun h => he (h.2 k hk))]
      have F : Fact (¬ (decide (lightP (l.getD k default).p) = true ∧ (l.getD k default).a.length ≤ 100 ∧ (l.getD k default).e.length ≤ 60)) := fun h => he ⟨of_decide_eq_true h.1, h.2⟩
      generalize decide (lightP (l.getD k default).p) = B at hP F
      clear k2 he
      cases B
      all_goals simp (disch := omega) only [↓Ed, Eu, ↓reduceIte, reduceCtorEq, Nat.reduceAdd, Nat.reduceEqDiff, Nat.reduceLT, Nat.reduceLeDiff, Int.reduceToNat, Int.reduceEq, Int.reduceLT, Int.reduceLE, w64, List.length_append, List.length_map, Nat.mul_one, beq_self_eq_true, PktC.cs, EvC.cs, st_nil, gdE, evl_len]
      all_goals repeat' ((first | refine CallO_pure (hP) ?_ | refine NewB_intro0 (fun b => ?_) | (refine NewB_intro (fun b hb => ?_); simp only [ln_cons2, ln_nil, and_true] at hb) | (with_reducible apply wA; focus exact OM_a) | ((first | refine gW_sp ?_ | refine condW_sp ?_ | refine pickW_sp ?_); (try refine Sp_n ?_); (first | refine wT ?_ | refine wF ?_ | refine wL (fun h h' => ?_) (fun h h' => ?_) | refine wE (fun h h' => ?_) (fun h h' => ?_) | refine Sp_split (fun h => ?_) (fun h => ?_)) <;> (try (exfalso; omega))) | refine TreeW_intro (by rfl) ?_ | refine TreeW_all ?_ | refine upQ_intro ?_ | refine Two_intro ?_ ?_ | exact wK | exact wD | (simp only [Fact, Bool.not_eq_true', Bool.not_eq_false', decide_eq_true_eq, decide_eq_false_iff_not] at *; exact wD) | (show (_ : Nat) ≤ _; omega)) <;> (try simp (disch := omega) only [*, ↓Ed, Eu, ↓reduceIte, reduceCtorEq, Nat.reduceAdd, Nat.reduceEqDiff, Nat.reduceLT, Nat.reduceLeDiff, Int.reduceToNat, Int.reduceEq, Int.reduceLT, Int.reduceLE, w64, List.length_append, List.length_map, Nat.mul_one, beq_self_eq_true, PktC.cs, EvC.cs, st_nil, gdE, evl_len]))
      all_goals (exfalso; simp only [Fact, Bool.not_eq_true', Bool.not_eq_false', decide_eq_true_eq, decide_eq_false_iff_not] at *; apply F; exact ⟨trivial, by omega, by omega⟩)
  · have f5 : Fact (decide ((k : Int) < l.length) = false) := by simp only [Fact, Bool.not_eq_true', Bool.not_eq_false', decide_eq_true_eq, decide_eq_false_iff_not]; omega
    have hT : lightEs l := ⟨h6, fun i hi => k2 i (by omega)⟩
    rw [decide_eq_true hT]
    clear k2
    simp (disch := omega) only [↓Ed, Eu, ↓reduceIte, reduceCtorEq, Nat.reduceAdd, Nat.reduceEqDiff, Nat.reduceLT, Nat.reduceLeDiff, Int.reduceToNat, Int.reduceEq, Int.reduceLT, Int.reduceLE, w64, List.length_append, List.length_map, Nat.mul_one, beq_self_eq_true, PktC.cs, EvC.cs, st_nil, gdE, evl_len]
    repeat' ((first | refine NewB_intro0 (fun b => ?_) | (refine NewB_intro (fun b hb => ?_); simp only [ln_cons2, ln_nil, and_true] at hb) | (with_reducible apply wA; focus exact OM_a) | ((first | refine gW_sp ?_ | refine condW_sp ?_ | refine pickW_sp ?_); (try refine Sp_n ?_); (first | refine wT ?_ | refine wF ?_ | refine wL (fun h h' => ?_) (fun h h' => ?_) | refine wE (fun h h' => ?_) (fun h h' => ?_) | refine Sp_split (fun h => ?_) (fun h => ?_)) <;> (try (exfalso; omega))) | refine TreeW_intro (by rfl) ?_ | refine TreeW_all ?_ | refine upQ_intro ?_ | refine Two_intro ?_ ?_ | exact wK | exact wD | (simp only [Fact, Bool.not_eq_true', Bool.not_eq_false', decide_eq_true_eq, decide_eq_false_iff_not] at *; exact wD) | (show (_ : Nat) ≤ _; omega)) <;> (try simp (disch := omega) only [*, ↓Ed, Eu, ↓reduceIte, reduceCtorEq, Nat.reduceAdd, Nat.reduceEqDiff, Nat.reduceLT, Nat.reduceLeDiff, Int.reduceToNat, Int.reduceEq, Int.reduceLT, Int.reduceLE, w64, List.length_append, List.length_map, Nat.mul_one, beq_self_eq_true, PktC.cs, EvC.cs, st_nil, gdE, evl_len]))
end Go.Proofs.Ytobopbjedojebaa

/- ends and keys: what stands first; rising lists -/
namespace Go.Proofs.Ytobopbjedojebaa
set_option linter.all false
open Go
abbrev EndP := List UInt8 × Int
def endLt (a b : EndP) : Bool := Op.bytesLess a.1 b.1 || (decide (a.1 = b.1) && decide (a.2 < b.2))
theorem endLt_iff (a b : EndP) : endLt a b = true ↔ a.1 < b.1 ∨ (a.1 = b.1 ∧ a.2 < b.2) := by
  simp [endLt, bytesLess_eq]
structure STO {α : Type} (lt : α → α → Bool) : Prop where
  irr : ∀ a, lt a a = false
  tr : ∀ a b c, lt a b = true → lt b c = true → lt a c = true
  tot : ∀ a b, lt a b = false → lt b a = false → a = b
theorem STO.asym {α : Type} {lt : α → α → Bool} (h : STO lt) {a b : α} (g : lt a b = true) : lt b a = false := by
  cases hb : lt b a with
  | false => rfl
  | true => have := h.tr _ _ _ g hb; rw [h.irr] at this; cases this
theorem lst_irr (a : List UInt8) : ¬ a < a := List.lt_irrefl a
theorem lst_tot {a b : List UInt8} (h1 : ¬ a < b) (h2 : ¬ b < a) : a = b := List.le_antisymm (List.not_lt.1 h2) (List.not_lt.1 h1)
theorem endSTO : STO endLt where
  irr a := by
    cases h : endLt a a with
    | false => rfl
    | true =>
      rcases (endLt_iff a a).1 h with h | ⟨_, h⟩
      · exact absurd h (lst_irr _)
      · omega
  tr a b c h1 h2 := by
    rw [endLt_iff] at *
    rcases h1 with h1 | ⟨e1, h1⟩ <;> rcases h2 with h2 | ⟨e2, h2⟩
    · exact .inl (List.lt_trans h1 h2)
    · exact .inl (e2 ▸ h1)
    · exact .inl (e1 ▸ h2)
    · exact .inr ⟨e1.trans e2, by omega⟩
  tot a b h1 h2 := by
    have g1 : ¬ (a.1 < b.1 ∨ (a.1 = b.1 ∧ a.2 < b.2)) := fun h => by rw [(endLt_iff a b).2 h] at h1; cases h1
    have g2 : ¬ (b.1 < a.1 ∨ (b.1 = a.1 ∧ b.2 < a.2)) := fun h => by rw [(endLt_iff b a).2 h] at h2; cases h2
    have e : a.1 = b.1 := lst_tot (fun h => g1 (.inl h)) (fun h => g2 (.inl h))
    have : a.2 = b.2 := by
      have p1 : ¬ a.2 < b.2 := fun h => g1 (.inr ⟨e, h⟩)
      have p2 : ¬ b.2 < a.2 := fun h => g2 (.inr ⟨e.symm, h⟩)
      omega
    exact Prod.ext e this
def KeyC.en (k : KeyC) : EndP := (k.e, k.ec)
def keyLt (a b : KeyC) : Bool := endLt a.en b.en || (decide (a.en = b.en) && ((!a.o && b.o) || (decide (a.o = b.o) && decide (a.q < b.q))))
theorem keyLt_iff (a b : KeyC) : keyLt a b = true ↔ endLt a.en b.en = true ∨ (a.en = b.en ∧ ((a.o = false ∧ b.o = true) ∨ (a.o = b.o ∧ a.q < b.q))) := by
  simp [keyLt]
theorem keySTO : STO keyLt where
  irr a := by simp [keyLt, endSTO.irr]
  tr a b c h1 h2 := by
    rw [keyLt_iff] at *
    rcases h1 with h1 | ⟨e1, h1⟩ <;> rcases h2 with h2 | ⟨e2, h2⟩
    · exact .inl (endSTO.tr _ _ _ h1 h2)
    · exact .inl (e2 ▸ h1)
    · exact .inl (e1 ▸ h2)
    · refine .inr ⟨e1.trans e2, ?_⟩
      rcases h1 with ⟨x1, x2⟩ | ⟨x1, x2⟩ <;> rcases h2 with ⟨y1, y2⟩ | ⟨y1, y2⟩
      · rw [x2] at y1; cases y1
      · exact .inl ⟨x1, y1 ▸ x2⟩
      · exact .inl ⟨x1.trans y1, y2⟩
      · exact .inr ⟨x1.trans y1, by omega⟩
  tot a b h1 h2 := by
    have g1 : ¬ _ := fun h => by rw [(keyLt_iff a b).2 h] at h1; cases h1
    have g2 : ¬ _ := fun h => by rw [(keyLt_iff b a).2 h] at h2; cases h2
    have e : a.en = b.en := endSTO.tot _ _ (by cases h : endLt a.en b.en <;> simp_all) (by cases h : endLt b.en a.en <;> simp_all)
    have q1 := fun h => g1 (.inr ⟨e, h⟩)
    have q2 := fun h => g2 (.inr ⟨e.symm, h⟩)
    obtain ⟨a1, a2, a3, a4⟩ := a; obtain ⟨b1, b2, b3, b4⟩ := b
    simp only [KeyC.en, Prod.mk.injEq] at e
    obtain ⟨rfl, rfl⟩ := e
    simp only at q1 q2
    have e3 : a3 = b3 := by cases a3 <;> cases b3 <;> simp_all
    subst e3
    have : a4 = b4 := by
      have p1 : ¬ a4 < b4 := fun h => q1 (.inr ⟨rfl, h⟩)
      have p2 : ¬ b4 < a4 := fun h => q2 (.inr ⟨rfl, h⟩)
      omega
    rw [this]
/-- How two stand: below 0, 0, above. -/
def cmpL {α : Type} (lt : α → α → Bool) (a b : α) : Int := if lt a b = true then -1 else if lt b a = true then 1 else 0
theorem cmpL_neg {α : Type} {lt : α → α → Bool} (a b : α) : cmpL lt a b < 0 ↔ lt a b = true := by
  unfold cmpL; split
  · simp_all
  · split <;> simp_all
/-! rising lists -/
def insL {α : Type} (lt : α → α → Bool) (x : α) : List α → List α
  | [] => [x]
  | y :: r => if lt y x = true then y :: insL lt x r else x :: y :: r
def Rise {α : Type} (lt : α → α → Bool) (l : List α) : Prop := l.Pairwise fun x y => lt x y = true
theorem insL_perm {α : Type} (lt : α → α → Bool) (x : α) : ∀ l : List α, (insL lt x l).Perm (x :: l)
  | [] => .refl _
  | y :: r => by
    unfold insL; split
    · exact ((insL_perm lt x r).cons y).trans (.swap x y r)
    · exact .refl _
theorem insL_rise {α : Type} {lt : α → α → Bool} (S : STO lt) {x : α} : ∀ {l : List α}, Rise lt l → x ∉ l → Rise lt (insL lt x l)
  | [], _, _ => by simp [insL, Rise]
  | y :: r, h, hn => by
    obtain ⟨h1, h2⟩ := List.pairwise_cons.1 h
    simp only [List.mem_cons, not_or] at hn
    unfold insL; split
    · rename_i hlt
      refine List.pairwise_cons.2 ⟨fun z hz => ?_, insL_rise S h2 hn.2⟩
      rcases List.mem_cons.1 ((insL_perm lt x r).mem_iff.1 hz) with rfl | hz
      · exact hlt
      · exact h1 _ hz
    · rename_i hlt
      have hxy : lt x y = true := by
        cases g : lt x y with
        | true => rfl
        | false => exact absurd (S.tot _ _ g (by simpa using hlt)) hn.1
      refine List.pairwise_cons.2 ⟨fun z hz => ?_, h⟩
      rcases List.mem_cons.1 hz with rfl | hz
      · exact hxy
      · exact S.tr _ _ _ hxy (h1 _ hz)
theorem rise_unique {α : Type} {lt : α → α → Bool} (S : STO lt) : ∀ {l m : List α}, Rise lt l → Rise lt m → l.Perm m → l = m
  | [], m, _, _, hp => (List.nil_perm.1 hp).symm
  | x :: l, [], _, _, hp => by simpa using hp.length_eq
  | x :: l, y :: m, h1, h2, hp => by
    obtain ⟨a1, a2⟩ := List.pairwise_cons.1 h1
    obtain ⟨b1, b2⟩ := List.pairwise_cons.1 h2
    have e : x = y := by
      rcases List.mem_cons.1 (hp.mem_iff.1 (List.mem_cons_self ..)) with e | hx
      · exact e
      · rcases List.mem_cons.1 (hp.mem_iff.2 (List.mem_cons_self ..)) with e | hy
        · exact e.symm
        · have := S.asym (a1 _ hy); rw [b1 _ hx] at this; cases this
    subst e
    rw [rise_unique S a2 b2 (List.Perm.cons_inv hp)]
def srtL {α : Type} (lt : α → α → Bool) (l : List α) : List α := l.foldr (insL lt) []
theorem srtL_perm {α : Type} (lt : α → α → Bool) : ∀ l : List α, (srtL lt l).Perm l
  | [] => .refl _
  | x :: r => (insL_perm lt x _).trans ((srtL_perm lt r).cons x)
theorem srtL_rise {α : Type} {lt : α → α → Bool} (S : STO lt) : ∀ {l : List α}, l.Nodup → Rise lt (srtL lt l)
  | [], _ => List.Pairwise.nil
  | x :: r, h => by
    obtain ⟨h1, h2⟩ := List.nodup_cons.1 h
    exact insL_rise S (srtL_rise S h2) fun hm => h1 ((srtL_perm lt r).mem_iff.1 hm)
theorem srtL_snoc {α : Type} {lt : α → α → Bool} (S : STO lt) {l : List α} {x : α} (ha : l.Nodup) (hn : x ∉ l) : srtL lt (l ++ [x]) = insL lt x (srtL lt l) := by
  have hN : (l ++ [x]).Nodup := List.nodup_append.2 ⟨ha, by simp, fun a h b hb => by simp at hb; subst hb; intro e; subst e; exact hn h⟩
  refine rise_unique S (srtL_rise S hN) (insL_rise S (srtL_rise S ha) fun hm => hn ((srtL_perm lt l).mem_iff.1 hm)) ?_
  refine (srtL_perm lt _).trans (.trans ?_ (insL_perm lt x _).symm)
  exact (List.perm_append_comm (l₁ := l) (l₂ := [x])).trans ((srtL_perm lt l).symm.cons x)
/-- The place of one among rising ones: how many stand before it. -/
def plL {α : Type} (lt : α → α → Bool) (x : α) (l : List α) : Nat := (l.takeWhile fun y => lt y x).length
theorem insL_at {α : Type} (lt : α → α → Bool) (x : α) : ∀ l : List α, insL lt x l = l.take (plL lt x l) ++ [x] ++ l.drop (plL lt x l)
  | [] => rfl
  | y :: r => by
    have ih := insL_at lt x r
    unfold insL plL
    by_cases h : lt y x = true
    · rw [if_pos h, List.takeWhile_cons, if_pos h, ih]; rfl
    · rw [if_neg h, List.takeWhile_cons, if_neg h]; rfl
end Go.Proofs.Ytobopbjedojebaa

/- maps keyed by a type with decided equality: where a key is -/
namespace Go.Proofs.Ytobopbjedojebaa
set_option linter.all false
open Go.RowKit
theorem findK_map {α : Type} [DecidableEq α] (ks : List Kd) (ag : Bool) (κ : α → AV) (h : ∀ a b, keyEq ks ag (κ a) (κ b) = some (decide (a = b))) (a : α) (l : List α) : ∀ i, findK ks ag (κ a) (l.map κ) i = some ((l.idxOf? a).map (· + i)) := by
  induction l with
  | nil => intro i; rfl
  | cons x r ih =>
    intro i
    simp only [List.map_cons, findK, h, List.idxOf?_cons]
    by_cases hx : a = x
    · subst hx; simp
    · have hx2 : (x == a) = false := by simp [Ne.symm hx]
      simp only [hx, decide_false, ih, hx2]
      cases r.idxOf? a <;> simp <;> omega
theorem findM_map {α : Type} [DecidableEq α] (ks : List Kd) (ag : Bool) (κ : α → AV) (h : ∀ a b, keyEq ks ag (κ a) (κ b) = some (decide (a = b))) (a : α) (l : List α) : findM ks ag (κ a) (l.map κ) = some (l.idxOf? a) := by
  simp only [findM, h, Option.bind_some, findK_map ks ag κ h]
  cases l.idxOf? a <;> simp
theorem findM_no {α : Type} [DecidableEq α] (ks : List Kd) (ag : Bool) (κ : α → AV) (h : ∀ a b, keyEq ks ag (κ a) (κ b) = some (decide (a = b))) (a : α) (l : List α) (hn : a ∉ l) : findM ks ag (κ a) (l.map κ) = some none := by
  rw [findM_map ks ag κ h, List.idxOf?_eq_none_iff.2 hn]
theorem findM_snoc {α : Type} [DecidableEq α] (ks : List Kd) (ag : Bool) (κ : α → AV) (h : ∀ a b, keyEq ks ag (κ a) (κ b) = some (decide (a = b))) (a : α) (l : List α) (hn : a ∉ l) : findM ks ag (κ a) (l.map κ ++ [κ a]) = some (some l.length) := by
  have := findM_map ks ag κ h a (l ++ [a])
  rw [List.map_append, List.map_singleton] at this
  rw [this]
  congr 1
  induction l with
  | nil => simp [List.idxOf?_cons]
  | cons x r ih =>
    simp only [List.mem_cons, not_or] at hn
    have hx : (x == a) = false := by simp [Ne.symm hn.1]
    have ih' := ih hn.2 (by rw [findM_map ks ag κ h a (r ++ [a]) |>.symm]; simp)
    simp only [List.cons_append, List.idxOf?_cons, hx, ih', List.length_cons]
    simp
theorem snoc_set {α : Type} (l : List α) (z v : α) (k : Nat) (h : l.length = k) : (l ++ [z]).set k v = l ++ [v] := by
  rw [List.set_append_right _ _ (by omega)]; simp [h]
theorem snoc_get {α : Type} (l : List α) (z d : α) (k : Nat) (h : l.length = k) : (l ++ [z]).getD k d = z := by
  simp [List.getD, ← h]
theorem findB_app (bs : List Nat) (n : Nat) (hn : n ∉ bs) : ∀ i, findB (n : Int) (bs ++ [n]) i = some (bs.length + i) := by
  induction bs with
  | nil => intro i; simp [findB]
  | cons b r ih =>
    intro i
    simp only [List.mem_cons, not_or] at hn
    have hb : ¬ (b : Int) = n := by omega
    simp only [List.cons_append, findB, hb, if_false, ih hn.2, List.length_cons]
    congr 1; omega
theorem findB_range (k i : Nat) : findB (k : Int) (List.range k ++ [k]) i = some (k + i) := by
  have := findB_app (List.range k) k (by simp) i
  simpa using this
/-- Keys of two words: a text and a number. -/
def endK (e : List UInt8 × Int) : AV := .agg [.str e.1, .int .i64 e.2]
theorem endK_eq (a b : List UInt8 × Int) : keyEq [.s, .i] true (endK a) (endK b) = some (decide (a = b)) := by
  obtain ⟨x, y⟩ := a; obtain ⟨z, w⟩ := b
  simp [endK, keyEq, eqC, eq1, Prod.ext_iff]
end Go.Proofs.Ytobopbjedojebaa

/- headers: their cells, as keys, in lists -/
namespace Go.Proofs.Ytobopbjedojebaa
set_option linter.all false
open Go.RowKit
set_option maxRecDepth 100000
structure HdC where
  h : Int
  t : Int
  r : List Int
  n : r.length = 32
  deriving DecidableEq
instance : Inhabited HdC := ⟨⟨0, 0, List.replicate 32 0, by simp⟩⟩
theorem HdC.ext3 {a b : HdC} (h1 : a.h = b.h) (h2 : a.t = b.t) (h3 : a.r = b.r) : a = b := by
  obtain ⟨a1, a2, a3, a4⟩ := a; obtain ⟨b1, b2, b3, b4⟩ := b
  simp only at h1 h2 h3
  subst h1; subst h2; subst h3; rfl
def HdC.rt (x : HdC) : List AV := x.r.map (.int .u8 ·)
abbrev HdC.cs (x : HdC) : List AV := .int .i64 x.h :: .int .i64 x.t :: x.rt
theorem rt_len (x : HdC) : x.rt.length = 32 := by simp [HdC.rt, x.n]
theorem rt_take (x : HdC) : x.rt.take 32 = x.rt := by rw [List.take_of_length_le]; rw [rt_len]; omega
theorem rt_so (x : HdC) : x.rt.map AV.store = x.rt := by simp [HdC.rt, AV.store, AV.alias]
theorem splice_all : ∀ (l m : List AV), l.length = m.length → splice l 0 m = m
  | [], [], _ => rfl
  | c :: l, d :: m, h => by rw [sp_0, splice_all l m (by simpa using h)]
theorem rt_sp (l : List AV) (x : HdC) (h : l.length = 32) : splice l 0 x.rt = x.rt := splice_all l _ (by rw [h, rt_len])
theorem rt_zero : (default : HdC).rt = List.replicate 32 (.int .u8 0) := by simp [HdC.rt, default, instInhabitedHdC]
theorem hd0_h : (default : HdC).h = 0 := rfl
theorem hd0_t : (default : HdC).t = 0 := rfl
theorem zeros_rt : [AV.int .u8 0, .int .u8 0, .int .u8 0, .int .u8 0, .int .u8 0, .int .u8 0, .int .u8 0, .int .u8 0, .int .u8 0, .int .u8 0, .int .u8 0, .int .u8 0, .int .u8 0, .int .u8 0, .int .u8 0, .int .u8 0, .int .u8 0, .int .u8 0, .int .u8 0, .int .u8 0, .int .u8 0, .int .u8 0, .int .u8 0, .int .u8 0, .int .u8 0, .int .u8 0, .int .u8 0, .int .u8 0, .int .u8 0, .int .u8 0, .int .u8 0, .int .u8 0] = (default : HdC).rt := by rw [rt_zero]; rfl
theorem eqC_us : ∀ (a b : List Int), a.length = b.length → eqC (List.replicate a.length .i) (a.map (AV.int .u8 ·)) (b.map (AV.int .u8 ·)) = some (decide (a = b))
  | [], [], _ => rfl
  | x :: a, y :: b, h => by
    rw [List.length_cons, List.replicate_succ, List.map_cons, List.map_cons, eqC_i, eqC_us a b (by simpa using h), oand_some]
    simp
theorem eqC_rt (x y : HdC) : eqC [.i, .i, .i, .i, .i, .i, .i, .i, .i, .i, .i, .i, .i, .i, .i, .i, .i, .i, .i, .i, .i, .i, .i, .i, .i, .i, .i, .i, .i, .i, .i, .i] x.rt y.rt = some (decide (x.r = y.r)) := by
  have := eqC_us x.r y.r (by rw [x.n, y.n])
  rw [x.n] at this
  exact this
theorem hd_dec (a b : HdC) : (decide (a.h = b.h) && (decide (a.t = b.t) && decide (a.r = b.r))) = decide (a = b) := by
  rw [Bool.eq_iff_iff]
  simp only [Bool.and_eq_true, decide_eq_true_eq]
  exact ⟨fun ⟨h1, h2, h3⟩ => HdC.ext3 h1 h2 h3, fun h => by subst h; exact ⟨rfl, rfl, rfl⟩⟩
def hds (l : List HdC) : List (List AV) := l.map HdC.cs
theorem gdH (l : List HdC) (i : Nat) (h : i < l.length) : (hds l).getD i [] = (l.getD i default).cs := by
  simp [hds, List.getD, h]
theorem hds_len (l : List HdC) : (hds l).length = l.length := by simp [hds]
/-- Keys: whole headers, heights. -/
def hdK (x : HdC) : AV := .agg x.cs
theorem hdK_eq (a b : HdC) : keyEq [.i, .i, .i, .i, .i, .i, .i, .i, .i, .i, .i, .i, .i, .i, .i, .i, .i, .i, .i, .i, .i, .i, .i, .i, .i, .i, .i, .i, .i, .i, .i, .i, .i, .i] true (hdK a) (hdK b) = some (decide (a = b)) := by
  simp only [hdK, keyEq, eqC_i, eqC_rt, oand_some, hd_dec]
def markK (a : Int) : AV := .agg [.int .i64 a]
theorem markK_eq (a b : Int) : keyEq [.i] true (markK a) (markK b) = some (decide (a = b)) := by
  simp only [markK, keyEq, eqC_i, eqC_nil, oand_some, Bool.and_true]
theorem rt_sp2 (x y : HdC) : splice x.rt 0 y.rt = y.rt := rt_sp _ y (rt_len x)
abbrev K34 : List Kd := [.i, .i, .i, .i, .i, .i, .i, .i, .i, .i, .i, .i, .i, .i, .i, .i, .i, .i, .i, .i, .i, .i, .i, .i, .i, .i, .i, .i, .i, .i, .i, .i, .i, .i]
/-! where a key is, what stands there -/
theorem idx_get {α : Type} [DecidableEq α] : ∀ {l : List α} {a : α} {i : Nat}, l.idxOf? a = some i → l[i]? = some a
  | [], _, _, h => by simp at h
  | x :: l, a, i, h => by
    rw [List.idxOf?_cons] at h
    by_cases hx : x = a
    · subst hx; simp at h; subst h; rfl
    · have hx2 : (x == a) = false := by simp [hx]
      rw [hx2] at h
      simp only [Bool.false_eq_true, if_false, Option.map_eq_some_iff] at h
      obtain ⟨j, hj, rfl⟩ := h
      simpa using idx_get hj
theorem idx_ex {α : Type} [DecidableEq α] {l : List α} {a : α} (h : a ∈ l) : ∃ i, l.idxOf? a = some i ∧ i < l.length := by
  cases hi : l.idxOf? a with
  | none => exact absurd h (List.idxOf?_eq_none_iff.1 hi)
  | some i => exact ⟨i, rfl, (List.getElem?_eq_some_iff.1 (idx_get hi)).1⟩
theorem range_getD (n i : Nat) (h : i < n) : (List.range n).getD i 0 = i := by simp [List.getD, h]
theorem findB_at : ∀ (n s i j : Nat), i < n → findB ((s + i : Nat) : Int) (List.range' s n) j = some (i + j)
  | 0, s, i, j, h => by omega
  | n + 1, s, i, j, h => by
    rw [List.range'_succ, findB]
    by_cases hi : i = 0
    · subst hi; simp
    · rw [if_neg (by omega)]
      have := findB_at n (s + 1) (i - 1) (j + 1) (by omega)
      rw [show s + 1 + (i - 1) = s + i by omega] at this
      rw [this]; congr 1; omega
theorem findB_in (n i : Nat) (h : i < n) : findB (i : Int) (List.range n) 0 = some i := by
  have := findB_at n 0 i 0 h
  rw [List.range_eq_range']
  simpa using this
theorem ints_get (l : List Int) (i : Nat) (h : i < l.length) : (l.map (AV.int .i64 ·)).getD i .undef = .int .i64 (l.getD i 0) := by simp [List.getD, h]
theorem ints_set (l : List Int) (i : Nat) (v : Int) : (l.map (AV.int .i64 ·)).set i (.int .i64 v) = (l.set i v).map (AV.int .i64 ·) := by simp [List.map_set]
end Go.Proofs.Ytobopbjedojebaa

/- what became of packets: a table as lists in the order of coming -/
namespace Go.Proofs.Ytobopbjedojebaa
set_option linter.all false
open Go.RowKit
abbrev keyA (k : KeyC) : AV := .agg k.cs
abbrev entA (x : EntC) : AV := .agg x.cs
theorem keyA_eq (a b : KeyC) : keyEq [.s, .i, .b, .i] true (keyA a) (keyA b) = some (decide (a = b)) := by
  obtain ⟨a1, a2, a3, a4⟩ := a; obtain ⟨b1, b2, b3, b4⟩ := b
  simp only [keyA, keyEq, eqC_s, eqC_i, eqC_b, eqC_nil, oand_some, Bool.and_true]
  congr 1
  rw [Bool.eq_iff_iff]
  simp
structure Tb where
  K : List (KeyC × EntC)
  C : List EndP
def findE (l : List (KeyC × EntC)) (k : KeyC) : Option EntC := (l.find? fun x => decide (x.1 = k)).map (·.2)
def tk (l : List (KeyC × EntC)) : List AV := (l.map (·.1)).map keyA
def tv (l : List (KeyC × EntC)) : List AV := l.map fun x => entA x.2
abbrev mpK (l : List (KeyC × EntC)) : AV := .mp (tk l) (tv l) (List.range l.length) l.length
abbrev mpC (l : List EndP) : AV := .mp (l.map endK) (List.replicate l.length (.int .i64 1)) (List.range l.length) l.length
abbrev tabO (c m n : Nat) (t : Tb) : List (Nat × List AV) := [(c, [.mapv m, .mapv n]), (m, [mpK t.K]), (n, [mpC t.C])]
theorem findE_none {l : List (KeyC × EntC)} {k : KeyC} (h : findE l k = none) : ∀ x ∈ l, x.1 ≠ k := by
  intro x hx e
  simp only [findE, Option.map_eq_none_iff, List.find?_eq_none] at h
  have := h x hx
  simp [e] at this
theorem lookK_none {l : List (KeyC × EntC)} {k : KeyC} (h : findE l k = none) : findM [.s, .i, .b, .i] true (keyA k) (tk l) = some none := by
  refine findM_no [.s, .i, .b, .i] true keyA keyA_eq k _ fun hm => ?_
  obtain ⟨x, hx, e⟩ := List.mem_map.1 hm
  exact findE_none h x hx e
theorem lookK_some {l : List (KeyC × EntC)} {k : KeyC} {x : EntC} (h : findE l k = some x) : ∃ i, i < l.length ∧ findM [.s, .i, .b, .i] true (keyA k) (tk l) = some (some i) ∧ (tv l).getD i .undef = entA x ∧ l[i]? = some (k, x) := by
  induction l with
  | nil => simp [findE] at h
  | cons y l ih =>
    have e := findM_map [.s, .i, .b, .i] true keyA keyA_eq k ((y :: l).map (·.1))
    by_cases hy : y.1 = k
    · simp [findE, hy] at h
      subst h
      refine ⟨0, by simp, ?_, rfl, by simp [← hy]⟩
      rw [tk, e, List.map_cons, List.idxOf?_cons, hy]; simp
    · have h' : findE l k = some x := by simpa [findE, hy] using h
      obtain ⟨i, h1, h2, h3, h4⟩ := ih h'
      refine ⟨i + 1, by simpa using h1, ?_, by simpa [tv] using h3, by simpa using h4⟩
      have e2 := findM_map [.s, .i, .b, .i] true keyA keyA_eq k (l.map (·.1))
      rw [tk, e2] at h2
      rw [tk, e, List.map_cons, List.idxOf?_cons]
      have : (y.1 == k) = false := by simp [hy]
      rw [this]
      simp only [Option.some.injEq] at h2
      simp [h2]
theorem lookC_no {l : List EndP} {e : EndP} (h : e ∉ l) : findM [.s, .i] true (endK e) (l.map endK) = some none := findM_no [.s, .i] true endK endK_eq e l h
theorem lookC_in {l : List EndP} {e : EndP} (h : e ∈ l) : ∃ i, i < l.length ∧ findM [.s, .i] true (endK e) (l.map endK) = some (some i) ∧ (List.replicate l.length (AV.int .i64 1)).getD i .undef = .int .i64 1 := by
  have h2 := findM_map [.s, .i] true endK endK_eq e l
  obtain ⟨i, hi, hlt⟩ := idx_ex h
  exact ⟨i, hlt, by rw [h2, hi], by simp [List.getD, hlt]⟩
def outK (k : Int) : Bool := decide (k = 1 ∨ k = 4 ∨ k = 5)
def ent0 (p : PktC) : EntC := ⟨p, [], false, false, false, false, false⟩
def markO (k : Int) : Nat := if k = 1 then 9 else if k = 2 then 10 else if k = 3 then 11 else if k = 4 then 12 else 13
def marked (x : EntC) (k : Int) : Bool := if k = 1 then x.s else if k = 2 then x.r else if k = 3 then x.w else if k = 4 then x.c else x.t
def markE (x : EntC) (e : EvC) : EntC := if e.k = 1 then { x with s := true } else if e.k = 2 then { x with r := true } else if e.k = 3 then { x with w := true, a := e.a } else if e.k = 4 then { x with c := true } else { x with t := true }
def lateE (x : EntC) (k : Int) : Bool := (decide (k = 4) && x.t) || (decide (k = 5) && x.c)
def setE (l : List (KeyC × EntC)) (k : KeyC) (y : EntC) : List (KeyC × EntC) := l.map fun x => if x.1 = k then (k, y) else x
noncomputable def keyE (e : EvC) : KeyC := ⟨(ownE e).1, (ownE e).2.1, outK e.k, (ownE e).2.2.1⟩
open Classical in
noncomputable def foldT (t : Tb) (e : EvC) : Tb × Int :=
  if mayE e = false then (t, 1) else if e.k = 7 then (t, 0) else if e.k = 6 then (if ((e.e, e.ec) : EndP) ∈ t.C then (t, 8) else (⟨t.K, t.C ++ [(e.e, e.ec)]⟩, 0))
  else match findE t.K (keyE e) with
    | none => (⟨t.K ++ [(keyE e, markE (ent0 e.p) e)], t.C⟩, 0)
    | some x => if ¬ x.p = e.p then (t, 3) else if marked x e.k then (t, 8) else if lateE x e.k then (t, 16) else (⟨setE t.K (keyE e) (markE x e), t.C⟩, 0)
end Go.Proofs.Ytobopbjedojebaa

/- The abstract machine: contracts of library functions over plain values, taken from the kit's shelf. -/
namespace Go.Proofs.Ytobopbjedojebaa
set_option linter.all false
open Go.RowKit
mutual
/-- The one value that reads av this. -/
def conc : AV → Option Value
  | .int k n => some (.int k n)
  | .bool b => some (.bool b)
  | .str l => some (.string ⟨l.toArray⟩)
  | .tup cs => (concs cs).map fun vs => .tuple vs.toArray
  | _ => none
def concs : List AV → Option (List Value)
  | [] => some []
  | c :: cs => match conc c, concs cs with
    | some v, some vs => some (v :: vs)
    | _, _ => none
end
theorem conc_unique {W : World} {U : Nat → Nat → Prop} {a : AV} {v u : Value} (h : VR W U u a) (hc : conc a = some v) (hp : ∀ cs, a ≠ .tup cs) : u = v := by
  cases h <;> simp [conc] at hc <;> first | exact hc | exact absurd rfl (hp _)
theorem concs_get : ∀ {cs : List AV} {vs : List Value}, concs cs = some vs → vs.length = cs.length ∧ ∀ (i : Nat) (v : Value) (c : AV), vs[i]? = some v → cs[i]? = some c → conc c = some v
  | [], vs, h => by
    simp only [concs, Option.some.injEq] at h
    subst h; simp
  | c :: cs, vs, h => by
    rw [concs] at h
    split at h
    · rename_i v ws h1 h2
      cases h
      have ih := concs_get h2
      refine ⟨by simp [ih.1], fun i u d hu hd => ?_⟩
      cases i with
      | zero => simp at hu hd; subst hu; subst hd; exact h1
      | succ i => exact ih.2 i u d (by simpa using hu) (by simpa using hd)
    · cases h
theorem conc_reads (W : World) (U : Nat → Nat → Prop) : ∀ (n : Nat) (a : AV) (v : Value), SizeOf.sizeOf a ≤ n → conc a = some v → VR W U v a
  | 0, a, v, hn, h => by cases a <;> simp at hn
  | n + 1, a, v, hn, h => by
    cases a <;> simp only [conc, Option.some.injEq, reduceCtorEq] at h
    · subst h; exact .int _ _
    · subst h; exact .bool _
    · subst h; exact .str _
    · rename_i cs
      cases hc : concs cs with
      | none => rw [hc] at h; cases h
      | some vs =>
        rw [hc] at h
        cases h
        have hg := concs_get hc
        refine .tup vs cs hg.1 fun i v c hv hc => conc_reads W U n c v ?_ (hg.2 i v c hv hc)
        have := List.sizeOf_lt_of_mem (List.mem_of_getElem? hc)
        simp at hn
        omega
/-- A library function over plain values: what it returns, and that nothing of what was there has turned. -/
theorem CP_libG {P : Program} {f : Nat} {av : List AV} {vs : List Value} {r : AV} {v : Value} (ha : concs av = some vs) (hp : ∀ a ∈ av, ∀ cs, a ≠ .tup cs) (hr : conc r = some v)
    (h : ∀ W U, Glob W U → Calls P f vs.toArray W fun e W' => e = .returned v ∧ Below W.heap.size W W') : CP P f av r := by
  intro W U us hG hl hu
  have hg := concs_get ha
  have he : us = vs := by
    apply List.ext_getElem?
    intro i
    by_cases hi : i < us.length
    · have h1 : i < vs.length := by omega
      have h2 : i < av.length := by omega
      rw [List.getElem?_eq_getElem hi, List.getElem?_eq_getElem h1]
      refine congrArg some (conc_unique (hu i _ av[i] (List.getElem?_eq_getElem hi) (List.getElem?_eq_getElem h2)) (hg.2 i _ _ (List.getElem?_eq_getElem h1) (List.getElem?_eq_getElem h2)) (hp _ (List.getElem_mem h2)))
    · rw [List.getElem?_eq_none (by omega), List.getElem?_eq_none (by omega)]
  subst he
  refine (h W U hG).mono ?_
  rintro e W' ⟨rfl, hb⟩
  refine ⟨v, fun k o => if k < W.heap.size then U k o else False, rfl, conc_reads _ _ _ r v (Nat.le_refl _) hr, ?_, hb, fun k hk o => by simp [hk]⟩
  cases r <;> first | trivial | simp [conc] at hr
/-- .. that reads no listed variable. -/
theorem CP_lib {P : Program} {f : Nat} {av : List AV} {vs : List Value} {r : AV} {v : Value} (ha : concs av = some vs) (hp : ∀ a ∈ av, ∀ cs, a ≠ .tup cs) (hr : conc r = some v)
    (h : ∀ W, Calls P f vs.toArray W fun e W' => e = .returned v ∧ Below W.heap.size W W') : CP P f av r := CP_libG ha hp hr fun W _ _ => h W
end Go.Proofs.Ytobopbjedojebaa
