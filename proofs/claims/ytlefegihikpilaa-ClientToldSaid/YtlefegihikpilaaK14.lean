import Derived.Test.YtlefegihikpilaaK13
import Derived.Test.YtlefegihikpilaaK9
import Derived.Test.YtlefegihikpilaaK10
/- client: New, State, Check, Update, Last, Copy: contracts over the client's two objects -/
namespace Go.Proofs.Ytlefegihikpilaa
set_option linter.all false
open Go.RowKit
set_option maxRecDepth 100000
def hk (l : List HdC) : List AV := (l.map HdC.h).map markK
def hv (l : List HdC) : List AV := l.map hdK
abbrev mpH (l : List HdC) : AV := .mp (hk l) (hv l) (List.range l.length) l.length
/-- A client's two objects. -/
abbrev cliO (c m : Nat) (l : List HdC) : List (Nat × List AV) := [(c, [.mapv m]), (m, [mpH l])]
theorem look_none {l : List HdC} {a : Int} (h : stH l a = none) : findM [.i] true (.agg [.int .i64 a]) (hk l) = some none := by
  refine findM_no [.i] true markK markK_eq a _ fun hm => ?_
  obtain ⟨x, hx, e⟩ := List.mem_map.1 hm
  exact stH_none h x hx e
theorem look_some {l : List HdC} {a : Int} {x : HdC} (h : stH l a = some x) : ∃ i, i < l.length ∧ findM [.i] true (.agg [.int .i64 a]) (hk l) = some (some i) ∧ (hv l).getD i .undef = .agg x.cs ∧ l[i]? = some x := by
  induction l with
  | nil => simp [stH] at h
  | cons y l ih =>
    have e := findM_map [.i] true markK markK_eq a ((y :: l).map HdC.h)
    by_cases hy : y.h = a
    · simp [stH, hy] at h
      subst h
      refine ⟨0, by simp, ?_, rfl, rfl⟩
      show findM _ _ (markK a) _ = _
      rw [hk, e, List.map_cons, List.idxOf?_cons, hy]; simp
    · simp only [stH, List.find?_cons, hy, decide_false] at h
      obtain ⟨i, h1, h2, h3, h4⟩ := ih h
      refine ⟨i + 1, by simpa using h1, ?_, by simpa [hv] using h3, by simpa using h4⟩
      have e2 := findM_map [.i] true markK markK_eq a (l.map HdC.h)
      have h2' : findM [.i] true (markK a) ((l.map HdC.h).map markK) = some (some i) := h2
      rw [e2] at h2'
      show findM _ _ (markK a) _ = _
      rw [hk, e, List.map_cons, List.idxOf?_cons]
      have : (y.h == a) = false := by simp [hy]
      rw [this]
      simp only [Option.some.injEq] at h2'
      simp [h2']
theorem t_New : CT Try.prog 12 [] (lk []) (new2 [] [mpH []]) := by
  refine okt_client_New _ _ _ (by simp) ?_
  simp only [c_client_New, ↓Ed, Eu, ↓reduceIte, reduceCtorEq, Nat.reduceAdd, Nat.reduceEqDiff, Nat.reduceLT, Nat.reduceLeDiff, Int.reduceToNat, Int.reduceEq, Int.reduceLT, Int.reduceLE, w64, List.length_append, List.length_map, Nat.mul_one, beq_self_eq_true, HdC.cs, gdH, hds_len, rt_len, rt_take, rt_so, rt_sp2, zeros_rt, eqC_rt, hd_dec, Int.reduceAdd, hd0_h, hd0_t, Option.isSome_some, Option.isSome_none]
  repeat' ((first | refine NewB_intro0 (fun b => ?_) | (refine NewB_intro (fun b hb => ?_); simp only [ln_cons2, ln_nil, and_true] at hb) | (with_reducible apply And.intro; (focus (first | omega | (simp only [Fact, Bool.not_eq_true', Bool.not_eq_false', decide_eq_true_eq, decide_eq_false_iff_not] at *; omega)))) | ((first | refine gW_sp ?_ | refine condW_sp ?_ | refine pickW_sp ?_); (try refine Sp_n ?_); (first | refine Sp_t (by assumption) ?_ | refine Sp_f (by assumption) ?_ | refine Sp_split (fun h => ?_) (fun h => ?_)) <;> (first | have h' := Fact_lt h | have h' := Fact_nlt h | have h' := Fact_le h | have h' := Fact_nle h | skip) <;> (try (exfalso; omega))) | refine TreeW_intro (by rfl) ?_ | refine TreeW_all ?_ | refine upQ_intro ?_ | refine Two_intro ?_ ?_ | (refine leK_lit ?_; (simp [-List.getD_eq_getElem?_getD, LeL, lk, *]; done)) | (refine leK_dd ?_; (simp [-List.getD_eq_getElem?_getD, LeS, LeL, lk, *]; done)) | (simp only [Fact, Bool.not_eq_true', Bool.not_eq_false', decide_eq_true_eq, decide_eq_false_iff_not] at *; refine leK_dd ?_; (simp [-List.getD_eq_getElem?_getD, LeS, LeL, lk, *]; done)) | (show (_ : Nat) ≤ _; omega)) <;> (try simp (disch := omega) only [*, ↓Ed, Eu, ↓reduceIte, reduceCtorEq, Nat.reduceAdd, Nat.reduceEqDiff, Nat.reduceLT, Nat.reduceLeDiff, Int.reduceToNat, Int.reduceEq, Int.reduceLT, Int.reduceLE, w64, List.length_append, List.length_map, Nat.mul_one, beq_self_eq_true, HdC.cs, gdH, hds_len, rt_len, rt_take, rt_so, rt_sp2, zeros_rt, eqC_rt, hd_dec, Int.reduceAdd, hd0_h, hd0_t, Option.isSome_some, Option.isSome_none]))
  rename_i m
  exact ro_new2 (o2 := []) b m (by simp [LeL, lk, hb, resR, arR, hk, hv]) (by simp [hb]) rfl rfl (fun _ _ h => by simp [lk] at h)
theorem t_State (c m : Nat) (h1 : ¬ c = m) (h2 : ¬ m = c) (l : List HdC) (a : Int) : CT Try.prog 13 [.ptr c 0, .int .i64 a] (lk (cliO c m l)) (fun r o => r = .tup [.agg ((stH l a).getD default).cs, .bool (stH l a).isSome] ∧ o = lk (cliO c m l)) := by
  refine okt_client_Client_State _ _ _ (by simp) ?_
  cases hs : stH l a with
  | none =>
    have hf := look_none hs
    clear hs
    simp only [c_client_Client_State, ↓Ed, Eu, ↓reduceIte, reduceCtorEq, Nat.reduceAdd, Nat.reduceEqDiff, Nat.reduceLT, Nat.reduceLeDiff, Int.reduceToNat, Int.reduceEq, Int.reduceLT, Int.reduceLE, w64, List.length_append, List.length_map, Nat.mul_one, beq_self_eq_true, HdC.cs, gdH, hds_len, rt_len, rt_take, rt_so, rt_sp2, zeros_rt, eqC_rt, hd_dec, Int.reduceAdd, hd0_h, hd0_t, Option.isSome_some, Option.isSome_none]
    repeat' ((first | refine NewB_intro0 (fun b => ?_) | (refine NewB_intro (fun b hb => ?_); simp only [ln_cons2, ln_nil, and_true] at hb) | (with_reducible apply And.intro; (focus (first | omega | (simp only [Fact, Bool.not_eq_true', Bool.not_eq_false', decide_eq_true_eq, decide_eq_false_iff_not] at *; omega)))) | ((first | refine gW_sp ?_ | refine condW_sp ?_ | refine pickW_sp ?_); (try refine Sp_n ?_); (first | refine Sp_t (by assumption) ?_ | refine Sp_f (by assumption) ?_ | refine Sp_split (fun h => ?_) (fun h => ?_)) <;> (first | have h' := Fact_lt h | have h' := Fact_nlt h | have h' := Fact_le h | have h' := Fact_nle h | skip) <;> (try (exfalso; omega))) | refine TreeW_intro (by rfl) ?_ | refine TreeW_all ?_ | refine upQ_intro ?_ | refine Two_intro ?_ ?_ | (refine leK_lit ?_; (simp [-List.getD_eq_getElem?_getD, LeL, lk, *]; done)) | (refine leK_dd ?_; (simp [-List.getD_eq_getElem?_getD, LeS, LeL, lk, *]; done)) | (simp only [Fact, Bool.not_eq_true', Bool.not_eq_false', decide_eq_true_eq, decide_eq_false_iff_not] at *; refine leK_dd ?_; (simp [-List.getD_eq_getElem?_getD, LeS, LeL, lk, *]; done)) | (show (_ : Nat) ≤ _; omega)) <;> (try simp (disch := omega) only [*, ↓Ed, Eu, ↓reduceIte, reduceCtorEq, Nat.reduceAdd, Nat.reduceEqDiff, Nat.reduceLT, Nat.reduceLeDiff, Int.reduceToNat, Int.reduceEq, Int.reduceLT, Int.reduceLE, w64, List.length_append, List.length_map, Nat.mul_one, beq_self_eq_true, HdC.cs, gdH, hds_len, rt_len, rt_take, rt_so, rt_sp2, zeros_rt, eqC_rt, hd_dec, Int.reduceAdd, hd0_h, hd0_t, Option.isSome_some, Option.isSome_none]))
    rename_i B HB
    exact ro_mk (by simp [LeL, lk, h1, h2, hb, HB, r_two, rl_cons, rl_nil, arR, view, l_all, rt_take, rt_len, al_agg, al_bool]) dom2
  | some x =>
    obtain ⟨i, hi, hf, hg, _⟩ := look_some hs
    clear hs
    simp only [c_client_Client_State, ↓Ed, Eu, ↓reduceIte, reduceCtorEq, Nat.reduceAdd, Nat.reduceEqDiff, Nat.reduceLT, Nat.reduceLeDiff, Int.reduceToNat, Int.reduceEq, Int.reduceLT, Int.reduceLE, w64, List.length_append, List.length_map, Nat.mul_one, beq_self_eq_true, HdC.cs, gdH, hds_len, rt_len, rt_take, rt_so, rt_sp2, zeros_rt, eqC_rt, hd_dec, Int.reduceAdd, hd0_h, hd0_t, Option.isSome_some, Option.isSome_none]
    repeat' ((first | refine NewB_intro0 (fun b => ?_) | (refine NewB_intro (fun b hb => ?_); simp only [ln_cons2, ln_nil, and_true] at hb) | (with_reducible apply And.intro; (focus (first | omega | (simp only [Fact, Bool.not_eq_true', Bool.not_eq_false', decide_eq_true_eq, decide_eq_false_iff_not] at *; omega)))) | ((first | refine gW_sp ?_ | refine condW_sp ?_ | refine pickW_sp ?_); (try refine Sp_n ?_); (first | refine Sp_t (by assumption) ?_ | refine Sp_f (by assumption) ?_ | refine Sp_split (fun h => ?_) (fun h => ?_)) <;> (first | have h' := Fact_lt h | have h' := Fact_nlt h | have h' := Fact_le h | have h' := Fact_nle h | skip) <;> (try (exfalso; omega))) | refine TreeW_intro (by rfl) ?_ | refine TreeW_all ?_ | refine upQ_intro ?_ | refine Two_intro ?_ ?_ | (refine leK_lit ?_; (simp [-List.getD_eq_getElem?_getD, LeL, lk, *]; done)) | (refine leK_dd ?_; (simp [-List.getD_eq_getElem?_getD, LeS, LeL, lk, *]; done)) | (simp only [Fact, Bool.not_eq_true', Bool.not_eq_false', decide_eq_true_eq, decide_eq_false_iff_not] at *; refine leK_dd ?_; (simp [-List.getD_eq_getElem?_getD, LeS, LeL, lk, *]; done)) | (show (_ : Nat) ≤ _; omega)) <;> (try simp (disch := omega) only [*, ↓Ed, Eu, ↓reduceIte, reduceCtorEq, Nat.reduceAdd, Nat.reduceEqDiff, Nat.reduceLT, Nat.reduceLeDiff, Int.reduceToNat, Int.reduceEq, Int.reduceLT, Int.reduceLE, w64, List.length_append, List.length_map, Nat.mul_one, beq_self_eq_true, HdC.cs, gdH, hds_len, rt_len, rt_take, rt_so, rt_sp2, zeros_rt, eqC_rt, hd_dec, Int.reduceAdd, hd0_h, hd0_t, Option.isSome_some, Option.isSome_none]))
    rename_i B HB
    exact ro_mk (by simp [LeL, lk, h1, h2, hb, HB, r_two, rl_cons, rl_nil, arR, view, l_all, rt_take, rt_len, al_agg, al_bool]) dom2
theorem mayH_t {x : HdC} (h : mayH x = true) : 1 ≤ x.h ∧ x.h ≤ 1099511627776 ∧ 0 ≤ x.t ∧ x.t ≤ 1099511627776 := of_decide_eq_true h
theorem mayH_f {x : HdC} (h : mayH x = false) : ¬ (1 ≤ x.h ∧ x.h ≤ 1099511627776 ∧ 0 ≤ x.t ∧ x.t ≤ 1099511627776) := of_decide_eq_false h
set_option maxHeartbeats 4000000 in
theorem t_Check (c m : Nat) (h1 : ¬ c = m) (h2 : ¬ m = c) (l told : List HdC) (h : HdC) (gt : AV) (hgt : gt.alias = .sl none 34 (hds told)) (hlt : told.length ≤ 1000) :
    CT Try.prog 18 [.ptr c 0, .agg h.cs, gt] (lk (cliO c m l)) (fun r o => r = .int .i64 (chkH l h told) ∧ o = lk (cliO c m l)) := by
  have hS := t_State c m h1 h2 l h.h
  have hA := p_among h told (.sl none 34 (hds told)) rfl hlt
  refine okt_client_Client_Check _ _ _ (by simp) ?_
  cases hm : mayH h with
  | false =>
    have hc : chkH l h told = 1 := by simp [chkH, hm]
    rw [hc]
    have F : Fact (¬ (1 ≤ h.h ∧ h.h ≤ 1099511627776 ∧ 0 ≤ h.t ∧ h.t ≤ 1099511627776)) := mayH_f hm
    clear hm hc
    simp only [c_client_Client_Check, hgt, ↓Ed, Eu, ↓reduceIte, reduceCtorEq, Nat.reduceAdd, Nat.reduceEqDiff, Nat.reduceLT, Nat.reduceLeDiff, Int.reduceToNat, Int.reduceEq, Int.reduceLT, Int.reduceLE, w64, List.length_append, List.length_map, Nat.mul_one, beq_self_eq_true, HdC.cs, gdH, hds_len, rt_len, rt_take, rt_so, rt_sp2, zeros_rt, eqC_rt, hd_dec, Int.reduceAdd, hd0_h, hd0_t, Option.isSome_some, Option.isSome_none]
    repeat' ((first | (refine' CallO_det (hS) (lk_sub2 ?_ ?_) ?_; rotate_right 3; (focus ((repeat (first | exact lk_hd _ _ _ | (refine lk_tl ?_ ?_; (focus (first | assumption | (simp only [*, not_false_eq_true]; done)))))); done)); (focus ((repeat (first | exact lk_hd _ _ _ | (refine lk_tl ?_ ?_; (focus (first | assumption | (simp only [*, not_false_eq_true]; done)))))); done))) | refine CallO_pure (hA) ?_ | refine NewB_intro0 (fun b => ?_) | (refine NewB_intro (fun b hb => ?_); simp only [ln_cons2, ln_nil, and_true] at hb) | (with_reducible apply And.intro; (focus (first | omega | (simp only [Fact, Bool.not_eq_true', Bool.not_eq_false', decide_eq_true_eq, decide_eq_false_iff_not] at *; omega)))) | ((first | refine gW_sp ?_ | refine condW_sp ?_ | refine pickW_sp ?_); (try refine Sp_n ?_); (first | refine Sp_t (by assumption) ?_ | refine Sp_f (by assumption) ?_ | refine Sp_split (fun h => ?_) (fun h => ?_)) <;> (first | have h' := Fact_lt h | have h' := Fact_nlt h | have h' := Fact_le h | have h' := Fact_nle h | skip) <;> (try (exfalso; omega))) | refine TreeW_intro (by rfl) ?_ | refine TreeW_all ?_ | refine upQ_intro ?_ | refine Two_intro ?_ ?_ | (refine leK_lit ?_; (simp [-List.getD_eq_getElem?_getD, LeL, lk, *]; done)) | (refine leK_dd ?_; (simp [-List.getD_eq_getElem?_getD, LeS, LeL, lk, *]; done)) | (simp only [Fact, Bool.not_eq_true', Bool.not_eq_false', decide_eq_true_eq, decide_eq_false_iff_not] at *; refine leK_dd ?_; (simp [-List.getD_eq_getElem?_getD, LeS, LeL, lk, *]; done)) | (show (_ : Nat) ≤ _; omega)) <;> (try simp (disch := omega) only [*, ↓Ed, Eu, ↓reduceIte, reduceCtorEq, Nat.reduceAdd, Nat.reduceEqDiff, Nat.reduceLT, Nat.reduceLeDiff, Int.reduceToNat, Int.reduceEq, Int.reduceLT, Int.reduceLE, w64, List.length_append, List.length_map, Nat.mul_one, beq_self_eq_true, HdC.cs, gdH, hds_len, rt_len, rt_take, rt_so, rt_sp2, zeros_rt, eqC_rt, hd_dec, Int.reduceAdd, hd0_h, hd0_t, Option.isSome_some, Option.isSome_none]))
    all_goals (first | (exfalso; simp only [Fact, Bool.not_eq_true', Bool.not_eq_false', decide_eq_true_eq, decide_eq_false_iff_not] at *; omega) | exact ro_mk (by simp [LeL, lk, h1, h2, resR, arR]) dom2)
  | true =>
  obtain ⟨q1, q2, q3, q4⟩ := mayH_t hm
  have f1 : Fact (decide (h.h < 1) = false) := by simp only [Fact, Bool.not_eq_true', Bool.not_eq_false', decide_eq_true_eq, decide_eq_false_iff_not]; omega
  have f2 : Fact (decide (1099511627776 < h.h) = false) := by simp only [Fact, Bool.not_eq_true', Bool.not_eq_false', decide_eq_true_eq, decide_eq_false_iff_not]; omega
  have f3 : Fact (decide (h.t < 0) = false) := by simp only [Fact, Bool.not_eq_true', Bool.not_eq_false', decide_eq_true_eq, decide_eq_false_iff_not]; omega
  have f4 : Fact (decide (1099511627776 < h.t) = false) := by simp only [Fact, Bool.not_eq_true', Bool.not_eq_false', decide_eq_true_eq, decide_eq_false_iff_not]; omega
  by_cases hin : h ∈ told
  rotate_left
  · have hc : chkH l h told = 9 := by simp [chkH, hm, hin]
    rw [hc]
    rw [decide_eq_false hin] at hA
    clear hm hc hin
    simp only [c_client_Client_Check, hgt, ↓Ed, Eu, ↓reduceIte, reduceCtorEq, Nat.reduceAdd, Nat.reduceEqDiff, Nat.reduceLT, Nat.reduceLeDiff, Int.reduceToNat, Int.reduceEq, Int.reduceLT, Int.reduceLE, w64, List.length_append, List.length_map, Nat.mul_one, beq_self_eq_true, HdC.cs, gdH, hds_len, rt_len, rt_take, rt_so, rt_sp2, zeros_rt, eqC_rt, hd_dec, Int.reduceAdd, hd0_h, hd0_t, Option.isSome_some, Option.isSome_none]
    repeat' ((first | (refine' CallO_det (hS) (lk_sub2 ?_ ?_) ?_; rotate_right 3; (focus ((repeat (first | exact lk_hd _ _ _ | (refine lk_tl ?_ ?_; (focus (first | assumption | (simp only [*, not_false_eq_true]; done)))))); done)); (focus ((repeat (first | exact lk_hd _ _ _ | (refine lk_tl ?_ ?_; (focus (first | assumption | (simp only [*, not_false_eq_true]; done)))))); done))) | refine CallO_pure (hA) ?_ | refine NewB_intro0 (fun b => ?_) | (refine NewB_intro (fun b hb => ?_); simp only [ln_cons2, ln_nil, and_true] at hb) | (with_reducible apply And.intro; (focus (first | omega | (simp only [Fact, Bool.not_eq_true', Bool.not_eq_false', decide_eq_true_eq, decide_eq_false_iff_not] at *; omega)))) | ((first | refine gW_sp ?_ | refine condW_sp ?_ | refine pickW_sp ?_); (try refine Sp_n ?_); (first | refine Sp_t (by assumption) ?_ | refine Sp_f (by assumption) ?_ | refine Sp_split (fun h => ?_) (fun h => ?_)) <;> (first | have h' := Fact_lt h | have h' := Fact_nlt h | have h' := Fact_le h | have h' := Fact_nle h | skip) <;> (try (exfalso; omega))) | refine TreeW_intro (by rfl) ?_ | refine TreeW_all ?_ | refine upQ_intro ?_ | refine Two_intro ?_ ?_ | (refine leK_lit ?_; (simp [-List.getD_eq_getElem?_getD, LeL, lk, *]; done)) | (refine leK_dd ?_; (simp [-List.getD_eq_getElem?_getD, LeS, LeL, lk, *]; done)) | (simp only [Fact, Bool.not_eq_true', Bool.not_eq_false', decide_eq_true_eq, decide_eq_false_iff_not] at *; refine leK_dd ?_; (simp [-List.getD_eq_getElem?_getD, LeS, LeL, lk, *]; done)) | (show (_ : Nat) ≤ _; omega)) <;> (try simp (disch := omega) only [*, ↓Ed, Eu, ↓reduceIte, reduceCtorEq, Nat.reduceAdd, Nat.reduceEqDiff, Nat.reduceLT, Nat.reduceLeDiff, Int.reduceToNat, Int.reduceEq, Int.reduceLT, Int.reduceLE, w64, List.length_append, List.length_map, Nat.mul_one, beq_self_eq_true, HdC.cs, gdH, hds_len, rt_len, rt_take, rt_so, rt_sp2, zeros_rt, eqC_rt, hd_dec, Int.reduceAdd, hd0_h, hd0_t, Option.isSome_some, Option.isSome_none]))
    all_goals exact ro_mk (by simp [LeL, lk, h1, h2, resR, arR]) dom2
  rw [decide_eq_true hin] at hA
  cases hs : stH l h.h with
  | none =>
    have hc : chkH l h told = 0 := by simp [chkH, hm, hin, hs]
    rw [hc]
    rw [hs] at hS
    clear hm hc hin hs
    simp only [c_client_Client_Check, hgt, ↓Ed, Eu, ↓reduceIte, reduceCtorEq, Nat.reduceAdd, Nat.reduceEqDiff, Nat.reduceLT, Nat.reduceLeDiff, Int.reduceToNat, Int.reduceEq, Int.reduceLT, Int.reduceLE, w64, List.length_append, List.length_map, Nat.mul_one, beq_self_eq_true, HdC.cs, gdH, hds_len, rt_len, rt_take, rt_so, rt_sp2, zeros_rt, eqC_rt, hd_dec, Int.reduceAdd, hd0_h, hd0_t, Option.isSome_some, Option.isSome_none]
    repeat' ((first | (refine' CallO_det (hS) (lk_sub2 ?_ ?_) ?_; rotate_right 3; (focus ((repeat (first | exact lk_hd _ _ _ | (refine lk_tl ?_ ?_; (focus (first | assumption | (simp only [*, not_false_eq_true]; done)))))); done)); (focus ((repeat (first | exact lk_hd _ _ _ | (refine lk_tl ?_ ?_; (focus (first | assumption | (simp only [*, not_false_eq_true]; done)))))); done))) | refine CallO_pure (hA) ?_ | refine NewB_intro0 (fun b => ?_) | (refine NewB_intro (fun b hb => ?_); simp only [ln_cons2, ln_nil, and_true] at hb) | (with_reducible apply And.intro; (focus (first | omega | (simp only [Fact, Bool.not_eq_true', Bool.not_eq_false', decide_eq_true_eq, decide_eq_false_iff_not] at *; omega)))) | ((first | refine gW_sp ?_ | refine condW_sp ?_ | refine pickW_sp ?_); (try refine Sp_n ?_); (first | refine Sp_t (by assumption) ?_ | refine Sp_f (by assumption) ?_ | refine Sp_split (fun h => ?_) (fun h => ?_)) <;> (first | have h' := Fact_lt h | have h' := Fact_nlt h | have h' := Fact_le h | have h' := Fact_nle h | skip) <;> (try (exfalso; omega))) | refine TreeW_intro (by rfl) ?_ | refine TreeW_all ?_ | refine upQ_intro ?_ | refine Two_intro ?_ ?_ | (refine leK_lit ?_; (simp [-List.getD_eq_getElem?_getD, LeL, lk, *]; done)) | (refine leK_dd ?_; (simp [-List.getD_eq_getElem?_getD, LeS, LeL, lk, *]; done)) | (simp only [Fact, Bool.not_eq_true', Bool.not_eq_false', decide_eq_true_eq, decide_eq_false_iff_not] at *; refine leK_dd ?_; (simp [-List.getD_eq_getElem?_getD, LeS, LeL, lk, *]; done)) | (show (_ : Nat) ≤ _; omega)) <;> (try simp (disch := omega) only [*, ↓Ed, Eu, ↓reduceIte, reduceCtorEq, Nat.reduceAdd, Nat.reduceEqDiff, Nat.reduceLT, Nat.reduceLeDiff, Int.reduceToNat, Int.reduceEq, Int.reduceLT, Int.reduceLE, w64, List.length_append, List.length_map, Nat.mul_one, beq_self_eq_true, HdC.cs, gdH, hds_len, rt_len, rt_take, rt_so, rt_sp2, zeros_rt, eqC_rt, hd_dec, Int.reduceAdd, hd0_h, hd0_t, Option.isSome_some, Option.isSome_none]))
    all_goals exact ro_mk (by simp [LeL, lk, h1, h2, resR, arR]) dom2
  | some x =>
    have hc : chkH l h told = if x = h then 0 else 8 := by simp [chkH, hm, hin, hs]
    rw [hs] at hS
    cases hxx : decide (x = h) with
    | true =>
      rw [if_pos (of_decide_eq_true hxx)] at hc
      rw [hc]
      clear hm hc hin hs
      simp only [c_client_Client_Check, hgt, ↓Ed, Eu, ↓reduceIte, reduceCtorEq, Nat.reduceAdd, Nat.reduceEqDiff, Nat.reduceLT, Nat.reduceLeDiff, Int.reduceToNat, Int.reduceEq, Int.reduceLT, Int.reduceLE, w64, List.length_append, List.length_map, Nat.mul_one, beq_self_eq_true, HdC.cs, gdH, hds_len, rt_len, rt_take, rt_so, rt_sp2, zeros_rt, eqC_rt, hd_dec, Int.reduceAdd, hd0_h, hd0_t, Option.isSome_some, Option.isSome_none]
      repeat' ((first | (refine' CallO_det (hS) (lk_sub2 ?_ ?_) ?_; rotate_right 3; (focus ((repeat (first | exact lk_hd _ _ _ | (refine lk_tl ?_ ?_; (focus (first | assumption | (simp only [*, not_false_eq_true]; done)))))); done)); (focus ((repeat (first | exact lk_hd _ _ _ | (refine lk_tl ?_ ?_; (focus (first | assumption | (simp only [*, not_false_eq_true]; done)))))); done))) | refine CallO_pure (hA) ?_ | refine NewB_intro0 (fun b => ?_) | (refine NewB_intro (fun b hb => ?_); simp only [ln_cons2, ln_nil, and_true] at hb) | (with_reducible apply And.intro; (focus (first | omega | (simp only [Fact, Bool.not_eq_true', Bool.not_eq_false', decide_eq_true_eq, decide_eq_false_iff_not] at *; omega)))) | ((first | refine gW_sp ?_ | refine condW_sp ?_ | refine pickW_sp ?_); (try refine Sp_n ?_); (first | refine Sp_t (by assumption) ?_ | refine Sp_f (by assumption) ?_ | refine Sp_split (fun h => ?_) (fun h => ?_)) <;> (first | have h' := Fact_lt h | have h' := Fact_nlt h | have h' := Fact_le h | have h' := Fact_nle h | skip) <;> (try (exfalso; omega))) | refine TreeW_intro (by rfl) ?_ | refine TreeW_all ?_ | refine upQ_intro ?_ | refine Two_intro ?_ ?_ | (refine leK_lit ?_; (simp [-List.getD_eq_getElem?_getD, LeL, lk, *]; done)) | (refine leK_dd ?_; (simp [-List.getD_eq_getElem?_getD, LeS, LeL, lk, *]; done)) | (simp only [Fact, Bool.not_eq_true', Bool.not_eq_false', decide_eq_true_eq, decide_eq_false_iff_not] at *; refine leK_dd ?_; (simp [-List.getD_eq_getElem?_getD, LeS, LeL, lk, *]; done)) | (show (_ : Nat) ≤ _; omega)) <;> (try simp (disch := omega) only [*, ↓Ed, Eu, ↓reduceIte, reduceCtorEq, Nat.reduceAdd, Nat.reduceEqDiff, Nat.reduceLT, Nat.reduceLeDiff, Int.reduceToNat, Int.reduceEq, Int.reduceLT, Int.reduceLE, w64, List.length_append, List.length_map, Nat.mul_one, beq_self_eq_true, HdC.cs, gdH, hds_len, rt_len, rt_take, rt_so, rt_sp2, zeros_rt, eqC_rt, hd_dec, Int.reduceAdd, hd0_h, hd0_t, Option.isSome_some, Option.isSome_none]))
      all_goals exact ro_mk (by simp [LeL, lk, h1, h2, resR, arR]) dom2
    | false =>
      rw [if_neg (of_decide_eq_false hxx)] at hc
      rw [hc]
      clear hm hc hin hs
      simp only [c_client_Client_Check, hgt, ↓Ed, Eu, ↓reduceIte, reduceCtorEq, Nat.reduceAdd, Nat.reduceEqDiff, Nat.reduceLT, Nat.reduceLeDiff, Int.reduceToNat, Int.reduceEq, Int.reduceLT, Int.reduceLE, w64, List.length_append, List.length_map, Nat.mul_one, beq_self_eq_true, HdC.cs, gdH, hds_len, rt_len, rt_take, rt_so, rt_sp2, zeros_rt, eqC_rt, hd_dec, Int.reduceAdd, hd0_h, hd0_t, Option.isSome_some, Option.isSome_none]
      repeat' ((first | (refine' CallO_det (hS) (lk_sub2 ?_ ?_) ?_; rotate_right 3; (focus ((repeat (first | exact lk_hd _ _ _ | (refine lk_tl ?_ ?_; (focus (first | assumption | (simp only [*, not_false_eq_true]; done)))))); done)); (focus ((repeat (first | exact lk_hd _ _ _ | (refine lk_tl ?_ ?_; (focus (first | assumption | (simp only [*, not_false_eq_true]; done)))))); done))) | refine CallO_pure (hA) ?_ | refine NewB_intro0 (fun b => ?_) | (refine NewB_intro (fun b hb => ?_); simp only [ln_cons2, ln_nil, and_true] at hb) | (with_reducible apply And.intro; (focus (first | omega | (simp only [Fact, Bool.not_eq_true', Bool.not_eq_false', decide_eq_true_eq, decide_eq_false_iff_not] at *; omega)))) | ((first | refine gW_sp ?_ | refine condW_sp ?_ | refine pickW_sp ?_); (try refine Sp_n ?_); (first | refine Sp_t (by assumption) ?_ | refine Sp_f (by assumption) ?_ | refine Sp_split (fun h => ?_) (fun h => ?_)) <;> (first | have h' := Fact_lt h | have h' := Fact_nlt h | have h' := Fact_le h | have h' := Fact_nle h | skip) <;> (try (exfalso; omega))) | refine TreeW_intro (by rfl) ?_ | refine TreeW_all ?_ | refine upQ_intro ?_ | refine Two_intro ?_ ?_ | (refine leK_lit ?_; (simp [-List.getD_eq_getElem?_getD, LeL, lk, *]; done)) | (refine leK_dd ?_; (simp [-List.getD_eq_getElem?_getD, LeS, LeL, lk, *]; done)) | (simp only [Fact, Bool.not_eq_true', Bool.not_eq_false', decide_eq_true_eq, decide_eq_false_iff_not] at *; refine leK_dd ?_; (simp [-List.getD_eq_getElem?_getD, LeS, LeL, lk, *]; done)) | (show (_ : Nat) ≤ _; omega)) <;> (try simp (disch := omega) only [*, ↓Ed, Eu, ↓reduceIte, reduceCtorEq, Nat.reduceAdd, Nat.reduceEqDiff, Nat.reduceLT, Nat.reduceLeDiff, Int.reduceToNat, Int.reduceEq, Int.reduceLT, Int.reduceLE, w64, List.length_append, List.length_map, Nat.mul_one, beq_self_eq_true, HdC.cs, gdH, hds_len, rt_len, rt_take, rt_so, rt_sp2, zeros_rt, eqC_rt, hd_dec, Int.reduceAdd, hd0_h, hd0_t, Option.isSome_some, Option.isSome_none]))
      all_goals exact ro_mk (by simp [LeL, lk, h1, h2, resR, arR]) dom2
theorem chk_known {l : List HdC} {h x : HdC} {told : List HdC} (hc : chkH l h told = 0) (hs : stH l h.h = some x) : x = h := by
  unfold chkH at hc
  split at hc
  · cases hc
  · split at hc
    · cases hc
    · rw [hs] at hc
      simp only at hc
      split at hc
      · assumption
      · cases hc
/-- What a client knows behind Update, whether the header is new, the error. -/
def upC (l : List HdC) (h : HdC) (told : List HdC) : List HdC × Bool × Int := if chkH l h told = 0 then (if (stH l h.h).isSome then (l, false, 0) else (l ++ [h], true, 0)) else (l, false, chkH l h told)
theorem hv_set {l : List HdC} {i : Nat} {x : HdC} (h : l[i]? = some x) : (hv l).set i (.agg x.cs) = hv l := by
  apply List.ext_getElem?
  intro j
  rw [List.getElem?_set]
  split
  · rename_i e; subst e
    obtain ⟨hi, hx⟩ := List.getElem?_eq_some_iff.1 h
    simp [hv, hi, hx, hdK]
  · rfl
set_option maxHeartbeats 4000000 in
theorem t_Update (c m : Nat) (h1 : ¬ c = m) (h2 : ¬ m = c) (l told : List HdC) (h : HdC) (gt : AV) (hgt : gt.alias = .sl none 34 (hds told)) (hlt : told.length ≤ 1000) (hl : l.length ≤ 1000) :
    CT Try.prog 15 [.ptr c 0, .agg h.cs, gt] (lk (cliO c m l)) (fun r o => r = .tup [.bool (upC l h told).2.1, .int .i64 (upC l h told).2.2] ∧ o = lk (cliO c m (upC l h told).1)) := by
  have hS := t_State c m h1 h2 l h.h
  have hC := t_Check c m h1 h2 l told h (.sl none 34 (hds told)) rfl hlt
  refine okt_client_Client_Update _ _ _ (by simp) ?_
  by_cases hc : chkH l h told = 0
  rotate_left
  · have hu : upC l h told = (l, false, chkH l h told) := by simp [upC, hc]
    rw [hu]
    have f1 : Fact (decide (chkH l h told = 0) = false) := decide_eq_false hc
    clear hc hu
    simp only [c_client_Client_Update, hgt, ↓Ed, Eu, ↓reduceIte, reduceCtorEq, Nat.reduceAdd, Nat.reduceEqDiff, Nat.reduceLT, Nat.reduceLeDiff, Int.reduceToNat, Int.reduceEq, Int.reduceLT, Int.reduceLE, w64, List.length_append, List.length_map, Nat.mul_one, beq_self_eq_true, HdC.cs, gdH, hds_len, rt_len, rt_take, rt_so, rt_sp2, zeros_rt, eqC_rt, hd_dec, Int.reduceAdd, hd0_h, hd0_t, Option.isSome_some, Option.isSome_none]
    repeat' ((first | (refine' CallO_det (hC) (lk_sub2 ?_ ?_) ?_; rotate_right 3; (focus ((repeat (first | exact lk_hd _ _ _ | (refine lk_tl ?_ ?_; (focus (first | assumption | (simp only [*, not_false_eq_true]; done)))))); done)); (focus ((repeat (first | exact lk_hd _ _ _ | (refine lk_tl ?_ ?_; (focus (first | assumption | (simp only [*, not_false_eq_true]; done)))))); done))) | refine NewB_intro0 (fun b => ?_) | (refine NewB_intro (fun b hb => ?_); simp only [ln_cons2, ln_nil, and_true] at hb) | (with_reducible apply And.intro; (focus (first | omega | (simp only [Fact, Bool.not_eq_true', Bool.not_eq_false', decide_eq_true_eq, decide_eq_false_iff_not] at *; omega)))) | ((first | refine gW_sp ?_ | refine condW_sp ?_ | refine pickW_sp ?_); (try refine Sp_n ?_); (first | refine Sp_t (by assumption) ?_ | refine Sp_f (by assumption) ?_ | refine Sp_split (fun h => ?_) (fun h => ?_)) <;> (first | have h' := Fact_lt h | have h' := Fact_nlt h | have h' := Fact_le h | have h' := Fact_nle h | skip) <;> (try (exfalso; omega))) | refine TreeW_intro (by rfl) ?_ | refine TreeW_all ?_ | refine upQ_intro ?_ | refine Two_intro ?_ ?_ | (refine leK_lit ?_; (simp [-List.getD_eq_getElem?_getD, LeL, lk, *]; done)) | (refine leK_dd ?_; (simp [-List.getD_eq_getElem?_getD, LeS, LeL, lk, *]; done)) | (simp only [Fact, Bool.not_eq_true', Bool.not_eq_false', decide_eq_true_eq, decide_eq_false_iff_not] at *; refine leK_dd ?_; (simp [-List.getD_eq_getElem?_getD, LeS, LeL, lk, *]; done)) | (show (_ : Nat) ≤ _; omega)) <;> (try simp (disch := omega) only [*, ↓Ed, Eu, ↓reduceIte, reduceCtorEq, Nat.reduceAdd, Nat.reduceEqDiff, Nat.reduceLT, Nat.reduceLeDiff, Int.reduceToNat, Int.reduceEq, Int.reduceLT, Int.reduceLE, w64, List.length_append, List.length_map, Nat.mul_one, beq_self_eq_true, HdC.cs, gdH, hds_len, rt_len, rt_take, rt_so, rt_sp2, zeros_rt, eqC_rt, hd_dec, Int.reduceAdd, hd0_h, hd0_t, Option.isSome_some, Option.isSome_none]))
    all_goals exact ro_mk (by simp [LeL, lk, h1, h2, r_two, rl_cons, rl_nil, arR, al_int, al_bool]) dom2
  rw [hc] at hC
  cases hs : stH l h.h with
  | none =>
    have hu : upC l h told = (l ++ [h], true, 0) := by simp [upC, hc, hs]
    rw [hu]
    rw [hs] at hS
    have hf := look_none hs
    clear hc hu hs
    simp only [c_client_Client_Update, hgt, ↓Ed, Eu, ↓reduceIte, reduceCtorEq, Nat.reduceAdd, Nat.reduceEqDiff, Nat.reduceLT, Nat.reduceLeDiff, Int.reduceToNat, Int.reduceEq, Int.reduceLT, Int.reduceLE, w64, List.length_append, List.length_map, Nat.mul_one, beq_self_eq_true, HdC.cs, gdH, hds_len, rt_len, rt_take, rt_so, rt_sp2, zeros_rt, eqC_rt, hd_dec, Int.reduceAdd, hd0_h, hd0_t, Option.isSome_some, Option.isSome_none]
    repeat' ((first | (refine' CallO_det (hC) (lk_sub2 ?_ ?_) ?_; rotate_right 3; (focus ((repeat (first | exact lk_hd _ _ _ | (refine lk_tl ?_ ?_; (focus (first | assumption | (simp only [*, not_false_eq_true]; done)))))); done)); (focus ((repeat (first | exact lk_hd _ _ _ | (refine lk_tl ?_ ?_; (focus (first | assumption | (simp only [*, not_false_eq_true]; done)))))); done))) | (refine' CallO_det (hS) (lk_sub2 ?_ ?_) ?_; rotate_right 3; (focus ((repeat (first | exact lk_hd _ _ _ | (refine lk_tl ?_ ?_; (focus (first | assumption | (simp only [*, not_false_eq_true]; done)))))); done)); (focus ((repeat (first | exact lk_hd _ _ _ | (refine lk_tl ?_ ?_; (focus (first | assumption | (simp only [*, not_false_eq_true]; done)))))); done))) | refine NewB_intro0 (fun b => ?_) | (refine NewB_intro (fun b hb => ?_); simp only [ln_cons2, ln_nil, and_true] at hb) | (with_reducible apply And.intro; (focus (first | omega | (simp only [Fact, Bool.not_eq_true', Bool.not_eq_false', decide_eq_true_eq, decide_eq_false_iff_not] at *; omega)))) | ((first | refine gW_sp ?_ | refine condW_sp ?_ | refine pickW_sp ?_); (try refine Sp_n ?_); (first | refine Sp_t (by assumption) ?_ | refine Sp_f (by assumption) ?_ | refine Sp_split (fun h => ?_) (fun h => ?_)) <;> (first | have h' := Fact_lt h | have h' := Fact_nlt h | have h' := Fact_le h | have h' := Fact_nle h | skip) <;> (try (exfalso; omega))) | refine TreeW_intro (by rfl) ?_ | refine TreeW_all ?_ | refine upQ_intro ?_ | refine Two_intro ?_ ?_ | (refine leK_lit ?_; (simp [-List.getD_eq_getElem?_getD, LeL, lk, *]; done)) | (refine leK_dd ?_; (simp [-List.getD_eq_getElem?_getD, LeS, LeL, lk, *]; done)) | (simp only [Fact, Bool.not_eq_true', Bool.not_eq_false', decide_eq_true_eq, decide_eq_false_iff_not] at *; refine leK_dd ?_; (simp [-List.getD_eq_getElem?_getD, LeS, LeL, lk, *]; done)) | (show (_ : Nat) ≤ _; omega)) <;> (try simp (disch := omega) only [*, ↓Ed, Eu, ↓reduceIte, reduceCtorEq, Nat.reduceAdd, Nat.reduceEqDiff, Nat.reduceLT, Nat.reduceLeDiff, Int.reduceToNat, Int.reduceEq, Int.reduceLT, Int.reduceLE, w64, List.length_append, List.length_map, Nat.mul_one, beq_self_eq_true, HdC.cs, gdH, hds_len, rt_len, rt_take, rt_so, rt_sp2, zeros_rt, eqC_rt, hd_dec, Int.reduceAdd, hd0_h, hd0_t, Option.isSome_some, Option.isSome_none]))
    all_goals exact ro_mk (by simp [LeL, lk, h1, h2, r_two, rl_cons, rl_nil, arR, al_int, al_bool, mpH, hk, hv, markK, hdK, List.range_succ]) dom2
  | some x =>
    have hu : upC l h told = (l, false, 0) := by simp [upC, hc, hs]
    rw [hu]
    have hx := chk_known hc hs
    subst hx
    rw [hs] at hS
    obtain ⟨i, hi, hf, hg, h3⟩ := look_some hs
    have hset := hv_set h3
    clear hc hu hs h3
    simp only [c_client_Client_Update, hgt, ↓Ed, Eu, ↓reduceIte, reduceCtorEq, Nat.reduceAdd, Nat.reduceEqDiff, Nat.reduceLT, Nat.reduceLeDiff, Int.reduceToNat, Int.reduceEq, Int.reduceLT, Int.reduceLE, w64, List.length_append, List.length_map, Nat.mul_one, beq_self_eq_true, HdC.cs, gdH, hds_len, rt_len, rt_take, rt_so, rt_sp2, zeros_rt, eqC_rt, hd_dec, Int.reduceAdd, hd0_h, hd0_t, Option.isSome_some, Option.isSome_none]
    repeat' ((first | (refine' CallO_det (hC) (lk_sub2 ?_ ?_) ?_; rotate_right 3; (focus ((repeat (first | exact lk_hd _ _ _ | (refine lk_tl ?_ ?_; (focus (first | assumption | (simp only [*, not_false_eq_true]; done)))))); done)); (focus ((repeat (first | exact lk_hd _ _ _ | (refine lk_tl ?_ ?_; (focus (first | assumption | (simp only [*, not_false_eq_true]; done)))))); done))) | (refine' CallO_det (hS) (lk_sub2 ?_ ?_) ?_; rotate_right 3; (focus ((repeat (first | exact lk_hd _ _ _ | (refine lk_tl ?_ ?_; (focus (first | assumption | (simp only [*, not_false_eq_true]; done)))))); done)); (focus ((repeat (first | exact lk_hd _ _ _ | (refine lk_tl ?_ ?_; (focus (first | assumption | (simp only [*, not_false_eq_true]; done)))))); done))) | refine NewB_intro0 (fun b => ?_) | (refine NewB_intro (fun b hb => ?_); simp only [ln_cons2, ln_nil, and_true] at hb) | (with_reducible apply And.intro; (focus (first | omega | (simp only [Fact, Bool.not_eq_true', Bool.not_eq_false', decide_eq_true_eq, decide_eq_false_iff_not] at *; omega)))) | ((first | refine gW_sp ?_ | refine condW_sp ?_ | refine pickW_sp ?_); (try refine Sp_n ?_); (first | refine Sp_t (by assumption) ?_ | refine Sp_f (by assumption) ?_ | refine Sp_split (fun h => ?_) (fun h => ?_)) <;> (first | have h' := Fact_lt h | have h' := Fact_nlt h | have h' := Fact_le h | have h' := Fact_nle h | skip) <;> (try (exfalso; omega))) | refine TreeW_intro (by rfl) ?_ | refine TreeW_all ?_ | refine upQ_intro ?_ | refine Two_intro ?_ ?_ | (refine leK_lit ?_; (simp [-List.getD_eq_getElem?_getD, LeL, lk, *]; done)) | (refine leK_dd ?_; (simp [-List.getD_eq_getElem?_getD, LeS, LeL, lk, *]; done)) | (simp only [Fact, Bool.not_eq_true', Bool.not_eq_false', decide_eq_true_eq, decide_eq_false_iff_not] at *; refine leK_dd ?_; (simp [-List.getD_eq_getElem?_getD, LeS, LeL, lk, *]; done)) | (show (_ : Nat) ≤ _; omega)) <;> (try simp (disch := omega) only [*, ↓Ed, Eu, ↓reduceIte, reduceCtorEq, Nat.reduceAdd, Nat.reduceEqDiff, Nat.reduceLT, Nat.reduceLeDiff, Int.reduceToNat, Int.reduceEq, Int.reduceLT, Int.reduceLE, w64, List.length_append, List.length_map, Nat.mul_one, beq_self_eq_true, HdC.cs, gdH, hds_len, rt_len, rt_take, rt_so, rt_sp2, zeros_rt, eqC_rt, hd_dec, Int.reduceAdd, hd0_h, hd0_t, Option.isSome_some, Option.isSome_none]))
    all_goals (simp only [HdC.cs] at hset)
    all_goals exact ro_mk (by simp [LeL, lk, h1, h2, r_two, rl_cons, rl_nil, arR, al_int, al_bool, mpH, hset]) dom2
def IsMax (l : List HdC) (v : Int) : Prop := 0 ≤ v ∧ (∀ x ∈ l, x.h ≤ v) ∧ (v = 0 ∨ ∃ x ∈ l, x.h = v)
theorem IsMax.uniq {l : List HdC} {v w : Int} (h : IsMax l v) (g : IsMax l w) : v = w := by
  obtain ⟨a1, a2, a3⟩ := h
  obtain ⟨b1, b2, b3⟩ := g
  have hle : v ≤ w := by
    rcases a3 with rfl | ⟨x, hx, rfl⟩
    · exact b1
    · exact b2 x hx
  have hge : w ≤ v := by
    rcases b3 with rfl | ⟨x, hx, rfl⟩
    · exact a1
    · exact a2 x hx
  omega
theorem foldM_ge : ∀ (l : List HdC) (m : Int), m ≤ l.foldl (fun m x => if m < x.h then x.h else m) m ∧ (∀ x ∈ l, x.h ≤ l.foldl (fun m x => if m < x.h then x.h else m) m) ∧ (l.foldl (fun m x => if m < x.h then x.h else m) m = m ∨ ∃ x ∈ l, x.h = l.foldl (fun m x => if m < x.h then x.h else m) m)
  | [], m => ⟨Int.le_refl _, by simp, .inl rfl⟩
  | y :: l, m => by
    obtain ⟨h1, h2, h3⟩ := foldM_ge l (if m < y.h then y.h else m)
    simp only [List.foldl_cons]
    refine ⟨?_, fun x hx => ?_, ?_⟩
    · split at h1 <;> split <;> omega
    · rcases List.mem_cons.1 hx with rfl | hx
      · split at h1 <;> split <;> omega
      · exact h2 x hx
    · rcases h3 with h3 | ⟨x, hx, h3⟩
      · rw [h3]
        by_cases hy : m < y.h
        · rw [if_pos hy]; exact .inr ⟨y, by simp, rfl⟩
        · rw [if_neg hy]; exact .inl rfl
      · exact .inr ⟨x, by simp [hx], h3⟩
theorem maxH_is (l : List HdC) : IsMax l (maxH l) := (foldM_ge l 0)
theorem nodup_len : ∀ (n : Nat) (s : List Nat), s.Nodup → (∀ x ∈ s, x < n) → s.length ≤ n
  | 0, s, _, hs => by
    cases s with
    | nil => simp
    | cons x s => exact absurd (hs x (by simp)) (by omega)
  | n + 1, s, hn, hs => by
    have h1 := nodup_len n (s.erase n) (hn.erase n) fun x hx => by
      have := (hn.mem_erase_iff).1 hx
      have := hs x this.2
      omega
    rw [List.length_erase] at h1
    split at h1 <;> omega
theorem hk_get (l : List HdC) (n : Nat) (h : n < l.length) : (hk l).getD n .undef = .agg [.int .i64 (l.getD n default).h] := by simp [hk, markK, List.getD, h]
theorem range_in {n i k : Nat} (h : (List.range n)[i]? = some k) : i < n ∧ i = k := by
  obtain ⟨h1, h2⟩ := List.getElem?_eq_some_iff.1 h
  simp at h1 h2
  exact ⟨h1, h2⟩
set_option maxHeartbeats 4000000 in
theorem t_Last (c m : Nat) (h1 : ¬ c = m) (h2 : ¬ m = c) (l : List HdC) : CT Try.prog 16 [.ptr c 0] (lk (cliO c m l)) (fun r o => r = .int .i64 (maxH l) ∧ o = lk (cliO c m l)) := by
  refine okt_client_Client_Last _ _ _ (by simp) ?_
  simp only [c_client_Client_Last, h1, h2, ↓Ed, Eu, ↓reduceIte, reduceCtorEq, Nat.reduceAdd, Nat.reduceEqDiff, Nat.reduceLT, Nat.reduceLeDiff, Int.reduceToNat, Int.reduceEq, Int.reduceLT, Int.reduceLE, w64, List.length_append, List.length_map, Nat.mul_one, beq_self_eq_true, HdC.cs, gdH, hds_len, rt_len, rt_take, rt_so, rt_sp2, zeros_rt, eqC_rt, hd_dec, Int.reduceAdd, hd0_h, hd0_t, Option.isSome_some, Option.isSome_none]
  repeat' ((first | refine NewB_intro0 (fun b => ?_) | (refine NewB_intro (fun b hb => ?_); simp only [ln_cons2, ln_nil, and_true] at hb) | (with_reducible apply And.intro; (focus (first | omega | (simp only [Fact, Bool.not_eq_true', Bool.not_eq_false', decide_eq_true_eq, decide_eq_false_iff_not] at *; omega)))) | ((first | refine gW_sp ?_ | refine condW_sp ?_ | refine pickW_sp ?_); (try refine Sp_n ?_); (first | refine Sp_t (by assumption) ?_ | refine Sp_f (by assumption) ?_ | refine Sp_split (fun h => ?_) (fun h => ?_)) <;> (first | have h' := Fact_lt h | have h' := Fact_nlt h | have h' := Fact_le h | have h' := Fact_nle h | skip) <;> (try (exfalso; omega))) | refine TreeW_intro (by rfl) ?_ | refine TreeW_all ?_ | refine upQ_intro ?_ | refine Two_intro ?_ ?_ | (refine leK_lit ?_; (simp [-List.getD_eq_getElem?_getD, LeL, lk, *]; done)) | (refine leK_dd ?_; (simp [-List.getD_eq_getElem?_getD, LeS, LeL, lk, *]; done)) | (simp only [Fact, Bool.not_eq_true', Bool.not_eq_false', decide_eq_true_eq, decide_eq_false_iff_not] at *; refine leK_dd ?_; (simp [-List.getD_eq_getElem?_getD, LeS, LeL, lk, *]; done)) | (show (_ : Nat) ≤ _; omega)) <;> (try simp (disch := omega) only [*, ↓Ed, Eu, ↓reduceIte, reduceCtorEq, Nat.reduceAdd, Nat.reduceEqDiff, Nat.reduceLT, Nat.reduceLeDiff, Int.reduceToNat, Int.reduceEq, Int.reduceLT, Int.reduceLE, w64, List.length_append, List.length_map, Nat.mul_one, beq_self_eq_true, HdC.cs, gdH, hds_len, rt_len, rt_take, rt_so, rt_sp2, zeros_rt, eqC_rt, hd_dec, Int.reduceAdd, hd0_h, hd0_t, Option.isSome_some, Option.isSome_none]))
  have hb0 := hb
  refine wpx_loop (fun x : List Nat × Int => ⟨lk [(3, .int .i64 x.2), (9, .itp b)], lk [(c, [.mapv m]), (m, [mpH l]), (b, [.mit m l.length x.1 l.length])]⟩)
    (fun x => x.1.Nodup ∧ (∀ n ∈ x.1, n < l.length) ∧ 0 ≤ x.2 ∧ (∀ n ∈ x.1, (l.getD n default).h ≤ x.2) ∧ (x.2 = 0 ∨ ∃ n ∈ x.1, (l.getD n default).h = x.2)) (fun x => l.length - x.1.length) ([], 0) ⟨by simp, by simp, by simp, by simp, .inl rfl⟩ (Le_lit (by simp [LeL, lk, h1, h2, hb])) ?_
  rintro ⟨seen, mx⟩ ⟨g1, g2, g3, g4, g5⟩
  simp only at g1 g2 g3 g4 g5
  simp (disch := omega) only [h1, h2, hb0, ↓Ed, Eu, ↓reduceIte, reduceCtorEq, Nat.reduceAdd, Nat.reduceEqDiff, Nat.reduceLT, Nat.reduceLeDiff, Int.reduceToNat, Int.reduceEq, Int.reduceLT, Int.reduceLE, w64, List.length_append, List.length_map, Nat.mul_one, beq_self_eq_true, HdC.cs, gdH, hds_len, rt_len, rt_take, rt_so, rt_sp2, zeros_rt, eqC_rt, hd_dec, Int.reduceAdd, hd0_h, hd0_t, Option.isSome_some, Option.isSome_none]
  repeat' ((first | refine NxtW_intro ⟨rfl, rfl⟩ (fun i n hi1 hi2 => ?_) (fun hall => ?_) | refine NewB_intro0 (fun b => ?_) | (refine NewB_intro (fun b hb => ?_); simp only [ln_cons2, ln_nil, and_true] at hb) | (with_reducible apply And.intro; (focus (first | omega | (simp only [Fact, Bool.not_eq_true', Bool.not_eq_false', decide_eq_true_eq, decide_eq_false_iff_not] at *; omega)))) | ((first | refine gW_sp ?_ | refine condW_sp ?_ | refine pickW_sp ?_); (try refine Sp_n ?_); (first | refine Sp_t (by assumption) ?_ | refine Sp_f (by assumption) ?_ | refine Sp_split (fun h => ?_) (fun h => ?_)) <;> (first | have h' := Fact_lt h | have h' := Fact_nlt h | have h' := Fact_le h | have h' := Fact_nle h | skip) <;> (try (exfalso; omega))) | refine TreeW_intro (by rfl) ?_ | refine TreeW_all ?_ | refine upQ_intro ?_ | refine Two_intro ?_ ?_ | (refine leK_lit ?_; (simp [-List.getD_eq_getElem?_getD, LeL, lk, *]; done)) | (refine leK_dd ?_; (simp [-List.getD_eq_getElem?_getD, LeS, LeL, lk, *]; done)) | (simp only [Fact, Bool.not_eq_true', Bool.not_eq_false', decide_eq_true_eq, decide_eq_false_iff_not] at *; refine leK_dd ?_; (simp [-List.getD_eq_getElem?_getD, LeS, LeL, lk, *]; done)) | (show (_ : Nat) ≤ _; omega)) <;> (try simp (disch := omega) only [*, ↓Ed, Eu, ↓reduceIte, reduceCtorEq, Nat.reduceAdd, Nat.reduceEqDiff, Nat.reduceLT, Nat.reduceLeDiff, Int.reduceToNat, Int.reduceEq, Int.reduceLT, Int.reduceLE, w64, List.length_append, List.length_map, Nat.mul_one, beq_self_eq_true, HdC.cs, gdH, hds_len, rt_len, rt_take, rt_so, rt_sp2, zeros_rt, eqC_rt, hd_dec, Int.reduceAdd, hd0_h, hd0_t, Option.isSome_some, Option.isSome_none]))
  · obtain ⟨hin, rfl⟩ := range_in hi1
    refine EntW_intro (i := i) (n := i) rfl (by simp) hi1 ?_
    have hkg := hk_get l i hin
    have hN : (seen ++ [i]).Nodup ∧ (∀ n ∈ seen ++ [i], n < l.length) ∧ 0 ≤ (if mx < (l.getD i default).h then (l.getD i default).h else mx) ∧ (∀ n ∈ seen ++ [i], (l.getD n default).h ≤ (if mx < (l.getD i default).h then (l.getD i default).h else mx)) ∧ ((if mx < (l.getD i default).h then (l.getD i default).h else mx) = 0 ∨ ∃ n ∈ seen ++ [i], (l.getD n default).h = (if mx < (l.getD i default).h then (l.getD i default).h else mx)) := by
      refine ⟨List.nodup_append.2 ⟨g1, by simp, fun a ha b hb => by simp at hb; subst hb; intro e; subst e; exact hi2 ha⟩, fun n hn => ?_, by split <;> omega, fun n hn => ?_, ?_⟩
      · rcases List.mem_append.1 hn with h | h
        · exact g2 n h
        · simp at h; omega
      · rcases List.mem_append.1 hn with h | h
        · have := g4 n h; split <;> omega
        · simp only [List.mem_singleton] at h; subst h; split <;> omega
      · by_cases hy : mx < (l.getD i default).h
        · rw [if_pos hy]; exact .inr ⟨i, by simp, rfl⟩
        · rw [if_neg hy]
          rcases g5 with g5 | ⟨n, hn, g5⟩
          · exact .inl g5
          · exact .inr ⟨n, by simp [hn], g5⟩
    have hM : l.length - (seen ++ [i]).length < l.length - seen.length := by
      have := nodup_len _ _ hN.1 hN.2.1
      simp at this ⊢; omega
    clear g1 g2 g3 g4 g5 hi1 hi2
    simp (disch := omega) only [hkg, h1, h2, hb0, ↓Ed, Eu, ↓reduceIte, reduceCtorEq, Nat.reduceAdd, Nat.reduceEqDiff, Nat.reduceLT, Nat.reduceLeDiff, Int.reduceToNat, Int.reduceEq, Int.reduceLT, Int.reduceLE, w64, List.length_append, List.length_map, Nat.mul_one, beq_self_eq_true, HdC.cs, gdH, hds_len, rt_len, rt_take, rt_so, rt_sp2, zeros_rt, eqC_rt, hd_dec, Int.reduceAdd, hd0_h, hd0_t, Option.isSome_some, Option.isSome_none]
    repeat' ((first | refine NewB_intro0 (fun b => ?_) | (refine NewB_intro (fun b hb => ?_); simp only [ln_cons2, ln_nil, and_true] at hb) | (with_reducible apply And.intro; (focus (first | omega | (simp only [Fact, Bool.not_eq_true', Bool.not_eq_false', decide_eq_true_eq, decide_eq_false_iff_not] at *; omega)))) | ((first | refine gW_sp ?_ | refine condW_sp ?_ | refine pickW_sp ?_); (try refine Sp_n ?_); (first | refine Sp_t (by assumption) ?_ | refine Sp_f (by assumption) ?_ | refine Sp_split (fun h => ?_) (fun h => ?_)) <;> (first | have h' := Fact_lt h | have h' := Fact_nlt h | have h' := Fact_le h | have h' := Fact_nle h | skip) <;> (try (exfalso; omega))) | refine TreeW_intro (by rfl) ?_ | refine TreeW_all ?_ | refine upQ_intro ?_ | refine Two_intro ?_ ?_ | (refine leK_lit ?_; (simp [-List.getD_eq_getElem?_getD, LeL, lk, *]; done)) | (refine leK_dd ?_; (simp [-List.getD_eq_getElem?_getD, LeS, LeL, lk, *]; done)) | (simp only [Fact, Bool.not_eq_true', Bool.not_eq_false', decide_eq_true_eq, decide_eq_false_iff_not] at *; refine leK_dd ?_; (simp [-List.getD_eq_getElem?_getD, LeS, LeL, lk, *]; done)) | (show (_ : Nat) ≤ _; omega)) <;> (try simp (disch := omega) only [*, ↓Ed, Eu, ↓reduceIte, reduceCtorEq, Nat.reduceAdd, Nat.reduceEqDiff, Nat.reduceLT, Nat.reduceLeDiff, Int.reduceToNat, Int.reduceEq, Int.reduceLT, Int.reduceLE, w64, List.length_append, List.length_map, Nat.mul_one, beq_self_eq_true, HdC.cs, gdH, hds_len, rt_len, rt_take, rt_so, rt_sp2, zeros_rt, eqC_rt, hd_dec, Int.reduceAdd, hd0_h, hd0_t, Option.isSome_some, Option.isSome_none]))
    exact Round_lit (seen ++ [i], if mx < (l.getD i default).h then (l.getD i default).h else mx) ⟨Le_lit (by simp [LeL, lk, h1, h2, hb0, hb]), hN, hM⟩
  · have hI : IsMax l mx := by
      refine ⟨g3, fun x hx => ?_, ?_⟩
      · obtain ⟨j, hj, rfl⟩ := List.getElem_of_mem hx
        have := g4 j (hall j (by simpa using hj))
        simpa [List.getD, hj] using this
      · rcases g5 with g5 | ⟨n, hn, g5⟩
        · exact .inl g5
        · have := g2 n hn
          refine .inr ⟨l[n], List.getElem_mem this, ?_⟩
          simpa [List.getD, this] using g5
    rw [(maxH_is l).uniq hI]
    exact ro_mk (by simp [LeL, lk, h1, h2, hb0, resR, arR]) dom2
/-- Copy: another client that knows the same. -/
theorem t_Copy (c m : Nat) (h1 : ¬ c = m) (h2 : ¬ m = c) (l : List HdC) : CT Try.prog 21 [.ptr c 0] (lk (cliO c m l)) (new2 (cliO c m l) [mpH l]) := by
  have hc : ∀ (b : Nat) (es : Array MapEntry) (clock : Nat) (w : World), w.heap[b]? = some (.map es clock) → Calls Try.prog 46 #[.map (some b)] w fun e w' => e = .returned (.map (some w.heap.size)) ∧ w' = w.alloc (.map es clock) := fun b es clock w hb => AnyW.maps_Clone Try.clone46 b es clock w hb
  refine okt_client_Client_Copy _ _ _ (by simp) ?_
  simp only [c_client_Client_Copy, h1, h2, ↓Ed, Eu, ↓reduceIte, reduceCtorEq, Nat.reduceAdd, Nat.reduceEqDiff, Nat.reduceLT, Nat.reduceLeDiff, Int.reduceToNat, Int.reduceEq, Int.reduceLT, Int.reduceLE, w64, List.length_append, List.length_map, Nat.mul_one, beq_self_eq_true, HdC.cs, gdH, hds_len, rt_len, rt_take, rt_so, rt_sp2, zeros_rt, eqC_rt, hd_dec, Int.reduceAdd, hd0_h, hd0_t, Option.isSome_some, Option.isSome_none]
  repeat' ((first | refine CallO_clone hc (lk_tl h2 (lk_hd _ _ _)) ?_ | refine NewB_intro0 (fun b => ?_) | (refine NewB_intro (fun b hb => ?_); simp only [ln_cons2, ln_nil, and_true] at hb) | (with_reducible apply And.intro; (focus (first | omega | (simp only [Fact, Bool.not_eq_true', Bool.not_eq_false', decide_eq_true_eq, decide_eq_false_iff_not] at *; omega)))) | ((first | refine gW_sp ?_ | refine condW_sp ?_ | refine pickW_sp ?_); (try refine Sp_n ?_); (first | refine Sp_t (by assumption) ?_ | refine Sp_f (by assumption) ?_ | refine Sp_split (fun h => ?_) (fun h => ?_)) <;> (first | have h' := Fact_lt h | have h' := Fact_nlt h | have h' := Fact_le h | have h' := Fact_nle h | skip) <;> (try (exfalso; omega))) | refine TreeW_intro (by rfl) ?_ | refine TreeW_all ?_ | refine upQ_intro ?_ | refine Two_intro ?_ ?_ | (refine leK_lit ?_; (simp [-List.getD_eq_getElem?_getD, LeL, lk, *]; done)) | (refine leK_dd ?_; (simp [-List.getD_eq_getElem?_getD, LeS, LeL, lk, *]; done)) | (simp only [Fact, Bool.not_eq_true', Bool.not_eq_false', decide_eq_true_eq, decide_eq_false_iff_not] at *; refine leK_dd ?_; (simp [-List.getD_eq_getElem?_getD, LeS, LeL, lk, *]; done)) | (show (_ : Nat) ≤ _; omega)) <;> (try simp (disch := omega) only [*, ↓Ed, Eu, ↓reduceIte, reduceCtorEq, Nat.reduceAdd, Nat.reduceEqDiff, Nat.reduceLT, Nat.reduceLeDiff, Int.reduceToNat, Int.reduceEq, Int.reduceLT, Int.reduceLE, w64, List.length_append, List.length_map, Nat.mul_one, beq_self_eq_true, HdC.cs, gdH, hds_len, rt_len, rt_take, rt_so, rt_sp2, zeros_rt, eqC_rt, hd_dec, Int.reduceAdd, hd0_h, hd0_t, Option.isSome_some, Option.isSome_none]))
  rename_i M HM
  exact ro_new2 (o2 := cliO c m l) b M (by simp [LeL, lk, h1, h2, hb, HM, resR, arR]) (by simp [hb, HM]) (by simp [lk, h1, h2, hb, HM]) (by simp [lk, h1, h2, hb, HM]) (fun b' cs h => ⟨cs, h⟩)
end Go.Proofs.Ytlefegihikpilaa

/- slices.Collect, slices.SortedFunc over the values of a client's map; (*Client).States -/
namespace Go.Proofs.Ytlefegihikpilaa
set_option linter.all false
open Go.RowKit Go.ChangeMaps Go.Sort Go.Shelf
/-- Headers whose height may be. -/
abbrev HdB := { x : HdC // 0 ≤ x.h ∧ x.h ≤ 1099511627776 }
instance : Inhabited HdB := ⟨⟨default, by decide⟩⟩
def clH (x : HdB) : List Value := .int .i64 x.1.h :: .int .i64 x.1.t :: x.1.r.map (Value.int .u8 ·)
theorem clH_len (x : HdB) : (clH x).length = 34 := by simp [clH, x.1.n]
theorem clH_one (x : HdB) : ∀ u ∈ clH x, u.oneCell' = true := by
  intro u hu
  simp only [clH, List.mem_cons, List.mem_map] at hu
  rcases hu with rfl | rfl | ⟨b, _, rfl⟩ <;> rfl
def cfH (x y : HdB) : Int := x.1.h - y.1.h
theorem lt_H (x y : HdB) : ltOf cfH x y = decide (x.1.h < y.1.h) := by
  unfold ltOf cfH
  by_cases h : x.1.h < y.1.h
  · rw [decide_eq_true h, decide_eq_true (by omega)]
  · rw [decide_eq_false h, decide_eq_false (by omega)]
theorem swoH : SWO (ltOf cfH) where
  irrefl x := by rw [lt_H]; simp
  trans x y z h1 h2 := by
    rw [lt_H] at h1 h2 ⊢
    have := of_decide_eq_true h1; have := of_decide_eq_true h2
    exact decide_eq_true (by omega)
  ntrans x y z h1 h2 := by
    rw [lt_H] at h1 h2 ⊢
    have := of_decide_eq_false h1; have := of_decide_eq_false h2
    exact decide_eq_false (by omega)
set_option maxHeartbeats 1000000 in
theorem va_cmp (x y : HdB) (W : World) : Calls Try.prog 43 #[.agg (clH x).toArray, .agg (clH y).toArray] W fun e w' => e = .returned (.int .i64 (cfH x y)) ∧ ∃ q os', w' = grow (W.drewN q) os' := by
  obtain ⟨⟨hx, tx, rx, nx⟩, b1, b2⟩ := x
  obtain ⟨⟨hy, ty, ry, ny⟩, c1, c2⟩ := y
  simp only at b1 b2 c1 c2
  have hw : IntKind.i64.wrap (hx - hy) = hx - hy := w64 (by omega)
  simp only [clH, cfH]
  generalize rx.map (Value.int .u8 ·) = px
  generalize ry.map (Value.int .u8 ·) = py
  go_enter Try.func43, Try.ntmps43
  go_wp2
  go_ret
  exact ⟨rfl, 0, _, by rw [alloc_eq_grow, alloc_eq_grow, grow_grow]; rfl⟩
theorem va_cmpLays (blk off size : Nat) (w : World) : CmpLays Try.prog 43 #[] clH 34 cfH blk off size w := fun _ _ _ _ x y => va_cmp x y _
theorem perm_of {α : Type} [Inhabited α] {d d' : Array α} (h : PermIn 0 d.size d d') : d'.toList.Perm d.toList := by
  obtain ⟨h1, _, h3⟩ := h
  have e1 : d'.extract 0 d.size = d' := by rw [← h1]; exact Array.extract_size
  have e2 : d.extract 0 d.size = d := Array.extract_size
  rwa [e1, e2] at h3
set_option maxHeartbeats 4000000 in
/-- slices.SortedFunc over maps.Values of a map whose values are these headers. -/
theorem va_sorted (bx b : Nat) (es : Array MapEntry) (clk : Nat) (l : List HdB) (w : World) (tb : TypeId) (hbx : w.heap[bx]? = some (.cells #[.map (some b)] tb (0, 0))) (hb : w.heap[b]? = some (.map es clk))
    (hval : es.toList.map (·.val) = l.map fun x => .agg (clH x).toArray) (hborn : ∀ x ∈ es.toList, x.born < clk) (hnd : (es.toList.map (·.born)).Nodup) (hl : l.length ≤ 1000000) :
    Calls Try.prog 41 #[.func (.func 76) #[] #[.pointer (some ⟨bx, 0, none⟩)], .func (.func 43) #[] #[]] w fun e W' =>
      ∃ (v : Value) (ds : List HdB), e = .returned v ∧ ds.Perm l ∧ (∀ i j, i < j → j < ds.length → (ds.getD i default).1.h ≤ (ds.getD j default).1.h) ∧ W'.ownsRow w.heap.size 30 34 v ds.length (ds.flatMap clH) ∧ Below w.heap.size w W' := by
  have hcol : Calls Try.prog 74 #[.func (.func 76) #[] #[.pointer (some ⟨bx, 0, none⟩)]] w fun e W' =>
      ∃ (v : Value) (xs : List HdB), e = .returned v ∧ xs.Perm l ∧ W'.ownsRow w.heap.size 30 34 v xs.length (xs.flatMap clH) ∧ Below w.heap.size w W' := by
    have ha := callsIn_wide.1 (va_app clH clH_len clH_one Fence.wide 10 trivial trivial rfl (by omega) bx b es clk l w tb hbx hb hval hborn hnd hl)
    go_enter Try.func74, Try.ntmps74
    go_wp2_with (go_at_call 104; refine ha.mono ?_; rintro e W' ⟨v, xs, rfl, hp, hrow, hbl⟩)
    go_ret
    exact ⟨v, xs, rfl, hp, hrow, hbl⟩
  go_enter Try.func41, Try.ntmps41
  go_wp2_with (go_at_call 74; refine hcol.mono ?_; rintro e W' ⟨v, xs, rfl, hp, hrow, hbl⟩)
  rcases hrow.2 with ⟨rfl, hz⟩ | ⟨g, cap, cur, rfl, hbase, hgb, r1, r2, r3, r4⟩
  · have hss : xs = [] := List.eq_nil_of_length_eq_zero hz
    subst hss
    refine (AnyF.slices_SortFunc_none Try.sort75 none 0 _ W').mono ?_
    rintro e W2 ⟨rfl, rfl⟩
    go_wp2
    go_ret
    exact ⟨.slice none 0 0, [], rfl, hp, by simp, by simpa using hrow, hbl⟩
  · have hH := holdsK_of_block clH_len (by omega) hgb r4
    have hgl : g < W'.heap.size := (Array.getElem?_eq_some_iff.1 hgb).1
    have hsz : xs.toArray.size < 4611686018427387904 := by
      have := hp.length_eq
      simp; omega
    have cS := AnyQ.slices_SortFunc Try.sort75 34 Try.isAgg30 Try.sizeOf30 clH clH_len clH_one cfH swoH 43 #[] g 0 cap xs.toArray W' (enters_of Try.func43 (by kernel_rfl) rfl) (va_cmpLays _ _ _ _) hH hgl hsz
    refine (show Calls Try.prog 75 #[.slice (some ⟨g, 0, none⟩) xs.length cap, _] W' _ from cS).mono ?_
    rintro e W2 ⟨rfl, d', nn, os, hperm, hsorted, rfl⟩
    have hpd : d'.toList.Perm xs := perm_of hperm
    have hown := ownsRow_sortK (n := nn) (os := os) clH_len (by omega) (hpd.length_eq) hbase hgb r1 r2 r3
    have hgr := grown_sortK (cl := clH) (k := 34) (w := W') (g := g) (n := nn) (os := os) d'
    simp only [Array.toArray_toList] at hown
    go_wp2
    go_ret
    refine ⟨_, d'.toList, rfl, hpd.trans hp, fun i j hij hj => ?_, ?_, hbl.grown hgr hbl.size (fun k e => by cases e; exact hbase)⟩
    · have hj' : j < xs.toArray.size := by rw [List.size_toArray, ← hpd.length_eq]; exact hj
      have := hsorted i j (Nat.zero_le _) hij hj'
      rw [lt_H] at this
      have := of_decide_eq_false this
      have hds : d'.size = d'.toList.length := by simp
      have e1 : d'[i]! = d'.toList.getD i default := by simp [List.getD, getElem!_pos, show i < d'.size by omega]
      have e2 : d'[j]! = d'.toList.getD j default := by simp [List.getD, getElem!_pos, show j < d'.size by omega]
      rw [← e1, ← e2]; omega
    · rw [hpd.length_eq]; exact hown
end Go.Proofs.Ytlefegihikpilaa

/- (*Client).States: the headers that are known, rising -/
namespace Go.Proofs.Ytlefegihikpilaa
set_option linter.all false
open Go.RowKit Go.ChangeMaps Go.Sort Go.Shelf
set_option maxRecDepth 100000
/-! values that read as these -/
theorem VR.map_inv {W : World} {U : Nat → Nat → Prop} {v : Value} {b : Nat} (h : VR W U v (.mapv b)) : v = .map (some b) := by cases h; rfl
theorem VR.ptr_inv {W : World} {U : Nat → Nat → Prop} {v : Value} {b o : Nat} (h : VR W U v (.ptr b o)) : v = .pointer (some ⟨b, o, none⟩) := by cases h; rfl
theorem VR.fn_inv {W : World} {U : Nat → Nat → Prop} {v : Value} {f : Nat} (h : VR W U v (.fn f)) : v = .func (.func f) #[] #[] := by cases h; rfl
theorem VR.int_inv2 {W : World} {U : Nat → Nat → Prop} {v : Value} {k : IntKind} {n : Int} (h : VR W U v (.int k n)) : v = .int k n := by cases h; rfl
theorem VR.clo1_inv {W : World} {U : Nat → Nat → Prop} {v : Value} {f b : Nat} (h : VR W U v (.clo f [.ptr b 0])) : v = .func (.func f) #[] #[.pointer (some ⟨b, 0, none⟩)] := by
  cases h with
  | clo f vs cs hl h =>
    match vs, hl with
    | [x], _ => rw [(h 0 x _ rfl rfl).ptr_inv]
theorem VR.hd_inv {W : World} {U : Nat → Nat → Prop} {v : Value} {x : HdB} (h : VR W U v (.agg x.1.cs)) : v = .agg (clH x).toArray := by
  cases h with
  | agg vs cs hl h h1 =>
    have hlen : vs.length = 34 := by rw [hl]; simp [rt_len]
    have : vs = clH x := by
      apply List.ext_getElem?
      intro i
      by_cases hi : i < vs.length
      · obtain ⟨u, hu⟩ : ∃ u, vs[i]? = some u := ⟨_, List.getElem?_eq_getElem hi⟩
        rw [hu]
        symm
        match i with
        | 0 => rw [(h 0 u _ hu rfl).int_inv2]; rfl
        | 1 => rw [(h 1 u _ hu rfl).int_inv2]; rfl
        | i + 2 =>
          have hr : i < x.1.r.length := by rw [x.1.n]; omega
          have e : x.1.cs[i + 2]? = some (.int .u8 (x.1.r[i])) := by simp [HdC.rt, hr]
          rw [(h (i + 2) u _ hu e).int_inv2]
          simp [clH, hr]
      · rw [List.getElem?_eq_none (by omega), List.getElem?_eq_none (by rw [clH_len]; omega)]
    rw [this]
theorem hd_cells (x : HdB) (j : Nat) (c : AV) (u : Value) (hc : x.1.cs[j]? = some c) (hu : (clH x)[j]? = some u) (W : World) (U : Nat → Nat → Prop) : VR W U u c := by
  match j with
  | 0 => simp [clH] at hc hu; subst hc; subst hu; exact .int _ _
  | 1 => simp [clH] at hc hu; subst hc; subst hu; exact .int _ _
  | j + 2 =>
    simp only [clH, HdC.rt, List.getElem?_cons_succ, List.getElem?_map, Option.map_eq_some_iff] at hc hu
    obtain ⟨a, ha, rfl⟩ := hc
    obtain ⟨b, hb, rfl⟩ := hu
    rw [ha] at hb
    cases hb
    exact .int _ _
theorem lift_b : ∀ (l : List HdC), (∀ x ∈ l, 0 ≤ x.h ∧ x.h ≤ 1099511627776) → ∃ m : List HdB, m.map (·.1) = l
  | [], _ => ⟨[], rfl⟩
  | x :: l, h => by
    obtain ⟨m, hm⟩ := lift_b l fun y hy => h y (by simp [hy])
    exact ⟨⟨x, h x (by simp)⟩ :: m, by simp [hm]⟩
theorem t_Values (m : Nat) : CT Try.prog 42 [.mapv m] (lk []) (fun r o => ∃ b, r = .clo 76 [.ptr b 0] ∧ o = lk [(b, [.mapv m])]) := by
  refine CT_lays (R := fun b => .clo _ [.ptr b 0]) fun W U vs hl hv => ?_
  obtain rfl : vs = [.map (some m)] := by
    match vs, hl with
    | [v], _ => rw [(hv 0 v _ rfl rfl).map_inv]
  go_enter Try.func42, Try.ntmps42
  go_wp2
  go_ret
  refine ⟨_, _, _, rfl, rfl, rfl, fun u hu => (by cases hu), fun j u hj => ?_, fun W2 U2 hc => ?_, by simp⟩
  · match j with
    | 0 =>
      simp at hj; subst hj
      exact ⟨rfl, fun x hx => by simp at hx; subst hx; exact ⟨.mapv m, by simp⟩⟩
    | j + 1 => simp at hj
  · refine .clo _ [_] [_] rfl fun i v c h1 h2 => ?_
    match i with
    | 0 => simp at h1 h2; subst h1; subst h2; exact .ptr _ _ hc
    | i + 1 => simp at h1
theorem t_Sorted (bx m : Nat) (h1 : ¬ bx = m) (l : List HdC) (hb : ∀ x ∈ l, 0 ≤ x.h ∧ x.h ≤ 1099511627776) (ha : Apart l) (hl : l.length ≤ 1000) :
    CT Try.prog 41 [.clo 76 [.ptr bx 0], .fn 43] (lk [(bx, [.mapv m]), (m, [mpH l])])
      (fun r o => r = .sl (some 30) 34 (hds (srt l)) ∧ o = lk [(bx, [.mapv m]), (m, [mpH l])]) := by
  refine CT_reads fun W U vs hG hlen hv ho => ?_
  obtain rfl : vs = [.func (.func 76) #[] #[.pointer (some ⟨bx, 0, none⟩)], .func (.func 43) #[] #[]] := by
    match vs, hlen with
    | [v, u], _ => rw [(hv 0 v _ rfl rfl).clo1_inv, (hv 1 u _ rfl rfl).fn_inv]
  obtain ⟨us, ty, q1, q2, q3⟩ : ObC W U bx [.mapv m] := ho bx _ (lk_hd _ _ _)
  obtain ⟨es, g1, g2, g3, g4, g5, g6, g7⟩ : ObR W U m [mpH l] := ho m _ (lk_tl (fun e => h1 e.symm) (lk_hd _ _ _))
  have hus : us = #[.map (some m)] := by
    have h0 := (q3 0 _ rfl).1.map_inv
    match us, q2 with
    | ⟨[a]⟩, _ => simp at h0; subst h0; rfl
  subst hus
  obtain ⟨lB, rfl⟩ := lift_b l hb
  have hsz : es.size = lB.length := by rw [g2]; simp [hk]
  have hborn : ∀ (i : Nat) (e : MapEntry), es[i]? = some e → e.born = i := by
    intro i e he
    have hi : i < es.size := (Array.getElem?_eq_some_iff.1 he).1
    exact (g7 i e he).2.2 i (by rw [List.getElem?_range (by simp; omega)])
  have hval : es.toList.map (·.val) = lB.map fun x => .agg (clH x).toArray := by
    apply List.ext_getElem?
    intro i
    by_cases hi : i < es.size
    · have hil : i < lB.length := by omega
      have he : es[i]? = some es[i] := Array.getElem?_eq_getElem hi
      have hx := (g7 i _ he).2.1 (.agg (lB[i]).1.cs) (by show ((lB.map (·.1)).map hdK)[i]? = _; rw [List.getElem?_map, List.getElem?_map, List.getElem?_eq_getElem hil]; rfl)
      simp only [List.getElem?_map, Array.getElem?_toList, he, Option.map_some, List.getElem?_eq_getElem hil]
      rw [VR.hd_inv hx]
    · rw [List.getElem?_eq_none (by simp; omega), List.getElem?_eq_none (by simp; omega)]
  have hb1 : ∀ x ∈ es.toList, x.born < (lB.map (·.1)).length := by
    intro x hx
    obtain ⟨i, hi, rfl⟩ := List.getElem_of_mem hx
    simp at hi
    have := hborn i es[i] (Array.getElem?_eq_getElem hi)
    simp [this]; omega
  have hnd : (es.toList.map (·.born)).Nodup := by
    have : es.toList.map (·.born) = List.range es.size := by
      apply List.ext_getElem
      · simp
      · intro i h2 h3
        simp at h2
        simp [hborn i es[i] (Array.getElem?_eq_getElem h2)]
    rw [this]; exact List.nodup_range
  refine (va_sorted bx m es _ lB W _ q1 g1 hval hb1 hnd (by simp at hl; omega)).mono ?_
  rintro e W' ⟨v, ds, rfl, hp, hs, hrow, hbl⟩
  have hDS : srt (lB.map (·.1)) = ds.map (·.1) := by
    refine asc_unique (srt_asc ha) ?_ ((srt_perm _).trans (hp.map _).symm)
    refine List.pairwise_iff_getElem.2 fun i j hi hj hij => ?_
    have hi' : i < ds.length := by simpa using hi
    have hj' : j < ds.length := by simpa using hj
    have h2 := hs i j hij hj'
    have hA : Apart (ds.map (·.1)) := by
      refine List.Pairwise.imp_of_mem ?_ (List.Pairwise.perm ha (hp.map _).symm ?_)
      · intro a b _ _ h; exact h
      · intro a b h e; exact h e.symm
    have h3 := (List.pairwise_iff_getElem.1 hA) i j hi hj hij
    simp [List.getD, hi', hj'] at h2 h3 ⊢
    omega
  rw [hDS]
  obtain ⟨U', r1, r2, r3⟩ := row_VR (U := U) (e := 30) (k := 34) (els := hds (ds.map (·.1))) (by omega) hbl hrow (by simp [hds]) (fun l hl => by
      simp only [hds, List.mem_map] at hl
      obtain ⟨a, _, rfl⟩ := hl
      simp [rt_len]) (fun u hu => by
      obtain ⟨x, _, hx⟩ := List.mem_flatMap.1 hu
      exact clH_one x u hx) (fun i j l' c u hl' hc hu W2 U2 => by
      simp only [hds, List.getElem?_map, Option.map_eq_some_iff] at hl'
      obtain ⟨a, ⟨x, hx, rfl⟩, rfl⟩ := hl'
      have hj : j < 34 := by
        have := (List.getElem?_eq_some_iff.1 hc).1
        simpa [rt_len] using this
      have hi : i < ds.length := (List.getElem?_eq_some_iff.1 hx).1
      rw [flat_getD clH_len ds i j hi hj, hx] at hu
      exact hd_cells x j c u hc hu W2 U2)
  exact ⟨v, U', rfl, r1, fun e sz els he => by cases he; exact r2, r3⟩
theorem t_States (c m : Nat) (h1 : ¬ c = m) (h2 : ¬ m = c) (l : List HdC) (hB : ∀ x ∈ l, 0 ≤ x.h ∧ x.h ≤ 1099511627776) (ha : Apart l) (hl : l.length ≤ 1000) :
    CT Try.prog 14 [.ptr c 0] (lk (cliO c m l)) (fun r o => r = .sl (some 30) 34 (hds (srt l)) ∧ o = lk (cliO c m l)) := by
  have hS := fun bx (h : ¬ bx = m) => t_Sorted bx m h l hB ha hl
  clear hB ha
  refine okt_client_Client_States _ _ _ (by simp) ?_
  simp only [c_client_Client_States, ↓Ed, Eu, ↓reduceIte, reduceCtorEq, Nat.reduceAdd, Nat.reduceEqDiff, Nat.reduceLT, Nat.reduceLeDiff, Int.reduceToNat, Int.reduceEq, Int.reduceLT, Int.reduceLE, w64, List.length_append, List.length_map, Nat.mul_one, beq_self_eq_true, HdC.cs, gdH, hds_len]
  repeat' ((first | refine CallO_newR (R := fun b => .clo _ [.ptr b 0]) (t_Values m) ?_ | refine NewB_intro0 (fun b => ?_) | (refine NewB_intro (fun b hb => ?_); simp only [ln_cons2, ln_nil, and_true] at hb) | (with_reducible apply And.intro; (focus (first | omega | (simp only [Fact, Bool.not_eq_true', Bool.not_eq_false', decide_eq_true_eq, decide_eq_false_iff_not] at *; omega)))) | ((first | refine gW_sp ?_ | refine condW_sp ?_ | refine pickW_sp ?_); (try refine Sp_n ?_); (first | refine Sp_t (by assumption) ?_ | refine Sp_f (by assumption) ?_ | refine Sp_split (fun h => ?_) (fun h => ?_)) <;> (first | have h' := Fact_lt h | have h' := Fact_nlt h | have h' := Fact_le h | have h' := Fact_nle h | skip) <;> (try (exfalso; omega))) | refine TreeW_intro (by rfl) ?_ | refine TreeW_all ?_ | refine upQ_intro ?_ | refine Two_intro ?_ ?_ | (refine leK_lit ?_; (simp [-List.getD_eq_getElem?_getD, LeL, lk, *]; done)) | (refine leK_dd ?_; (simp [-List.getD_eq_getElem?_getD, LeS, LeL, lk, *]; done)) | (simp only [Fact, Bool.not_eq_true', Bool.not_eq_false', decide_eq_true_eq, decide_eq_false_iff_not] at *; refine leK_dd ?_; (simp [-List.getD_eq_getElem?_getD, LeS, LeL, lk, *]; done)) | (show (_ : Nat) ≤ _; omega)) <;> (try simp (disch := omega) only [*, ↓Ed, Eu, ↓reduceIte, reduceCtorEq, Nat.reduceAdd, Nat.reduceEqDiff, Nat.reduceLT, Nat.reduceLeDiff, Int.reduceToNat, Int.reduceEq, Int.reduceLT, Int.reduceLE, w64, List.length_append, List.length_map, Nat.mul_one, beq_self_eq_true, HdC.cs, gdH, hds_len]))
  have hb' : (¬b = c ∧ ¬c = b) ∧ ¬b = m ∧ ¬m = b := by simpa using hb
  refine CallO_det (hS b hb'.2.1) (lk_sub2 (lk_hd _ _ _) (lk_tl hb'.2.2 (lk_tl h2 (lk_hd _ _ _)))) ?_
  simp (disch := omega) only [hb', h1, h2, ↓Ed, Eu, ↓reduceIte, reduceCtorEq, Nat.reduceAdd, Nat.reduceEqDiff, Nat.reduceLT, Nat.reduceLeDiff, Int.reduceToNat, Int.reduceEq, Int.reduceLT, Int.reduceLE, w64, List.length_append, List.length_map, Nat.mul_one, beq_self_eq_true, HdC.cs, gdH, hds_len]
  repeat' ((first | refine NewB_intro0 (fun b => ?_) | (refine NewB_intro (fun b hb => ?_); simp only [ln_cons2, ln_nil, and_true] at hb) | (with_reducible apply And.intro; (focus (first | omega | (simp only [Fact, Bool.not_eq_true', Bool.not_eq_false', decide_eq_true_eq, decide_eq_false_iff_not] at *; omega)))) | ((first | refine gW_sp ?_ | refine condW_sp ?_ | refine pickW_sp ?_); (try refine Sp_n ?_); (first | refine Sp_t (by assumption) ?_ | refine Sp_f (by assumption) ?_ | refine Sp_split (fun h => ?_) (fun h => ?_)) <;> (first | have h' := Fact_lt h | have h' := Fact_nlt h | have h' := Fact_le h | have h' := Fact_nle h | skip) <;> (try (exfalso; omega))) | refine TreeW_intro (by rfl) ?_ | refine TreeW_all ?_ | refine upQ_intro ?_ | refine Two_intro ?_ ?_ | (refine leK_lit ?_; (simp [-List.getD_eq_getElem?_getD, LeL, lk, *]; done)) | (refine leK_dd ?_; (simp [-List.getD_eq_getElem?_getD, LeS, LeL, lk, *]; done)) | (simp only [Fact, Bool.not_eq_true', Bool.not_eq_false', decide_eq_true_eq, decide_eq_false_iff_not] at *; refine leK_dd ?_; (simp [-List.getD_eq_getElem?_getD, LeS, LeL, lk, *]; done)) | (show (_ : Nat) ≤ _; omega)) <;> (try simp (disch := omega) only [*, ↓Ed, Eu, ↓reduceIte, reduceCtorEq, Nat.reduceAdd, Nat.reduceEqDiff, Nat.reduceLT, Nat.reduceLeDiff, Int.reduceToNat, Int.reduceEq, Int.reduceLT, Int.reduceLE, w64, List.length_append, List.length_map, Nat.mul_one, beq_self_eq_true, HdC.cs, gdH, hds_len]))
  exact ro_mk (by simp [LeL, lk, h1, h2, hb', resR, arR]) dom2
end Go.Proofs.Ytlefegihikpilaa
