import Derived.Test.YtlefegihikpilaaK14
/- chapter 14: what its examples fix -/
namespace Go.Proofs.Ytlefegihikpilaa
set_option linter.all false
open Go.RowKit
set_option maxRecDepth 100000
def hd1 : HdC := ⟨2, 3, List.replicate 32 0, by simp⟩
theorem hU1 (c m : Nat) (h1 : ¬ c = m) (h2 : ¬ m = c) : CT Try.prog 15 [.ptr c 0, .agg hd1.cs, .sl none 34 (hds [hd1])] (lk (cliO c m [])) (fun r o => r = .tup [.bool true, .int .i64 0] ∧ o = lk (cliO c m [hd1])) := by
  have h := t_Update c m h1 h2 [] [hd1] hd1 (.sl none 34 (hds [hd1])) rfl (by simp) (by simp)
  rw [show upC [] hd1 [hd1] = ([hd1], true, 0) from by decide +kernel] at h
  exact h
theorem hU2 (c m : Nat) (h1 : ¬ c = m) (h2 : ¬ m = c) : CT Try.prog 15 [.ptr c 0, .agg hd1.cs, .sl none 34 (hds [hd1])] (lk (cliO c m [hd1])) (fun r o => r = .tup [.bool false, .int .i64 0] ∧ o = lk (cliO c m [hd1])) := by
  have h := t_Update c m h1 h2 [hd1] [hd1] hd1 (.sl none 34 (hds [hd1])) rfl (by simp) (by simp)
  rw [show upC [hd1] hd1 [hd1] = ([hd1], false, 0) from by decide +kernel] at h
  exact h
theorem hL1 (c m : Nat) (h1 : ¬ c = m) (h2 : ¬ m = c) : CT Try.prog 16 [.ptr c 0] (lk (cliO c m [hd1])) (fun r o => r = .int .i64 2 ∧ o = lk (cliO c m [hd1])) := t_Last c m h1 h2 [hd1]
set_option maxHeartbeats 4000000 in
theorem p_first : CP Try.prog 11 [] (.bool true) := by
  refine ok_liglaw14_first _ _ (by simp) ?_
  simp only [c_liglaw14_first, ↓Ed, Eu, ↓reduceIte, reduceCtorEq, Nat.reduceAdd, Nat.reduceEqDiff, Nat.reduceLT, Nat.reduceLeDiff, Int.reduceToNat, Int.reduceEq, Int.reduceLT, Int.reduceLE, w64, List.length_append, List.length_map, Nat.mul_one, beq_self_eq_true, HdC.cs, gdH, hds_len, rt_len, rt_take, rt_so, rt_sp2, zeros_rt, eqC_rt, hd_dec, Int.reduceAdd, hd0_h, hd0_t, Option.isSome_some, Option.isSome_none]
  repeat' ((first | (refine' CallO_new2 (o1 := []) (o2 := []) (t_New) (fun _ _ h => by simp [lk] at h) (fun _ _ => rfl) (NewB2_intro (fun c m hc hm hcm hmc => ?_)); simp only [ln_cons2, ln_nil, and_true] at hc hm) | (refine' CallO_det (hU1 _ _ (by assumption) (by assumption)) (lk_sub2 ?_ ?_) ?_; rotate_right 3; (focus ((repeat (first | exact lk_hd _ _ _ | (refine lk_tl ?_ ?_; (focus (first | assumption | (simp only [*, not_false_eq_true]; done)))))); done)); (focus ((repeat (first | exact lk_hd _ _ _ | (refine lk_tl ?_ ?_; (focus (first | assumption | (simp only [*, not_false_eq_true]; done)))))); done))) | (refine' CallO_det (hU2 _ _ (by assumption) (by assumption)) (lk_sub2 ?_ ?_) ?_; rotate_right 3; (focus ((repeat (first | exact lk_hd _ _ _ | (refine lk_tl ?_ ?_; (focus (first | assumption | (simp only [*, not_false_eq_true]; done)))))); done)); (focus ((repeat (first | exact lk_hd _ _ _ | (refine lk_tl ?_ ?_; (focus (first | assumption | (simp only [*, not_false_eq_true]; done)))))); done))) | (refine' CallO_det (hL1 _ _ (by assumption) (by assumption)) (lk_sub2 ?_ ?_) ?_; rotate_right 3; (focus ((repeat (first | exact lk_hd _ _ _ | (refine lk_tl ?_ ?_; (focus (first | assumption | (simp only [*, not_false_eq_true]; done)))))); done)); (focus ((repeat (first | exact lk_hd _ _ _ | (refine lk_tl ?_ ?_; (focus (first | assumption | (simp only [*, not_false_eq_true]; done)))))); done))) | refine NewB_intro0 (fun b => ?_) | (refine NewB_intro (fun b hb => ?_); simp only [ln_cons2, ln_nil, and_true] at hb) | (with_reducible apply And.intro; (focus (first | omega | (simp only [Fact, Bool.not_eq_true', Bool.not_eq_false', decide_eq_true_eq, decide_eq_false_iff_not] at *; omega)))) | ((first | refine gW_sp ?_ | refine condW_sp ?_ | refine pickW_sp ?_); (try refine Sp_n ?_); (first | refine Sp_t (by assumption) ?_ | refine Sp_f (by assumption) ?_ | refine Sp_split (fun h => ?_) (fun h => ?_)) <;> (first | have h' := Fact_lt h | have h' := Fact_nlt h | have h' := Fact_le h | have h' := Fact_nle h | skip) <;> (try (exfalso; omega))) | refine TreeW_intro (by rfl) ?_ | refine TreeW_all ?_ | refine upQ_intro ?_ | refine Two_intro ?_ ?_ | (refine leK_lit ?_; (simp [-List.getD_eq_getElem?_getD, LeL, lk, *]; done)) | (refine leK_dd ?_; (simp [-List.getD_eq_getElem?_getD, LeS, LeL, lk, *]; done)) | (simp only [Fact, Bool.not_eq_true', Bool.not_eq_false', decide_eq_true_eq, decide_eq_false_iff_not] at *; refine leK_dd ?_; (simp [-List.getD_eq_getElem?_getD, LeS, LeL, lk, *]; done)) | (show (_ : Nat) ≤ _; omega)) <;> (try simp (disch := omega) only [*, ↓Ed, Eu, ↓reduceIte, reduceCtorEq, Nat.reduceAdd, Nat.reduceEqDiff, Nat.reduceLT, Nat.reduceLeDiff, Int.reduceToNat, Int.reduceEq, Int.reduceLT, Int.reduceLE, w64, List.length_append, List.length_map, Nat.mul_one, beq_self_eq_true, HdC.cs, gdH, hds_len, rt_len, rt_take, rt_so, rt_sp2, zeros_rt, eqC_rt, hd_dec, Int.reduceAdd, hd0_h, hd0_t, Option.isSome_some, Option.isSome_none]))
end Go.Proofs.Ytlefegihikpilaa

/- what a client knows, step by step -/
namespace Go.Proofs.Ytlefegihikpilaa
set_option linter.all false
structure Good (K : List HdC) (n : Nat) : Prop where
  ap : Apart K
  bd : ∀ x ∈ K, 1 ≤ x.h ∧ x.h ≤ 1099511627776
  ln : K.length ≤ n
theorem Good.bd0 {K : List HdC} {n : Nat} (h : Good K n) : ∀ x ∈ K, 0 ≤ x.h ∧ x.h ≤ 1099511627776 := fun x hx => by have := h.bd x hx; omega
theorem good_nil : Good [] 0 := ⟨List.Pairwise.nil, by simp, by simp⟩
theorem Good.mono {K : List HdC} {n m : Nat} (h : Good K n) (hm : n ≤ m) : Good K m := ⟨h.ap, h.bd, Nat.le_trans h.ln hm⟩
theorem chk_may {K : List HdC} {h : HdC} {told : List HdC} (hc : chkH K h told = 0) : mayH h = true ∧ h ∈ told := by
  unfold chkH at hc
  split at hc
  · cases hc
  · rename_i hm
    split at hc
    · cases hc
    · rename_i hi
      exact ⟨by simpa using hm, by simpa using hi⟩
theorem up_good {K : List HdC} {n : Nat} (g : Good K n) (h : HdC) (told : List HdC) : Good (upC K h told).1 (n + 1) := by
  unfold upC
  split
  · rename_i hc
    split
    · exact g.mono (by omega)
    · rename_i hs
      obtain ⟨h1, _⟩ := chk_may hc
      have hb := mayH_t h1
      refine ⟨g.ap.snoc fun x hx e => ?_, fun x hx => ?_, by simp; exact g.ln⟩
      · cases hst : stH K h.h with
        | none => exact stH_none hst x hx e
        | some y => simp [hst] at hs
      · rcases List.mem_append.1 hx with hx | hx
        · exact g.bd x hx
        · simp at hx; subst hx; exact ⟨hb.1, hb.2.1⟩
  · exact g.mono (by omega)
theorem chk_srt {K : List HdC} (ha : Apart K) (h : HdC) (told : List HdC) : chkH (srt K) h told = chkH K h told := by
  unfold chkH; rw [stH_srt ha]
theorem upd_srt {K : List HdC} (ha : Apart K) {h : HdC} {told : List HdC} (hc : chkH K h told = 0) : updH (srt K) h = (srt (upC K h told).1, (upC K h told).2.1) := by
  unfold updH upC
  rw [stH_srt ha, if_pos hc]
  cases hs : stH K h.h with
  | some x => rfl
  | none =>
    simp only [Option.isSome_none, Bool.false_eq_true, if_false]
    rw [srt_snoc ha (stH_none hs)]
theorem up_err {K : List HdC} {h : HdC} {told : List HdC} : (upC K h told).2.2 = chkH K h told := by
  unfold upC
  split
  · rename_i hc
    split <;> exact hc.symm
  · rfl
theorem up_no {K : List HdC} {h : HdC} {told : List HdC} (hc : ¬ chkH K h told = 0) : upC K h told = (K, false, chkH K h told) := by
  unfold upC; rw [if_neg hc]
theorem srt_len (K : List HdC) : (srt K).length = K.length := (srt_perm K).length_eq
theorem asc_last : ∀ {l : List HdC} (_ : Asc l) (x : HdC), x ∈ l → x.h ≤ (l.getD (l.length - 1) default).h := by
  intro l ha x hx
  obtain ⟨i, hi, rfl⟩ := List.getElem_of_mem hx
  by_cases e : i = l.length - 1
  · subst e; simp [List.getD, hi]
  · have := (List.pairwise_iff_getElem.1 ha) i (l.length - 1) hi (by omega) (by omega)
    have h2 : l.length - 1 < l.length := by omega
    simp [List.getD, h2]; omega
theorem last_srt {K : List HdC} {n : Nat} (g : Good K n) (hn : 0 < (srt K).length) : ((srt K).getD ((srt K).length - 1) default).h = maxH K := by
  have hmem : (srt K).getD ((srt K).length - 1) default ∈ srt K := by
    have h2 : (srt K).length - 1 < (srt K).length := by omega
    simp only [List.getD, List.getElem?_eq_getElem h2, Option.getD_some]
    exact List.getElem_mem _
  have hK := (srt_perm K).mem_iff.1 hmem
  refine IsMax.uniq ⟨?_, fun x hx => asc_last (srt_asc g.ap) x ((srt_perm K).mem_iff.2 hx), .inr ⟨_, hK, rfl⟩⟩ (maxH_is K)
  have := g.bd _ hK; omega
theorem last_nil {K : List HdC} (hn : ¬ 0 < (srt K).length) : maxH K = 0 := by
  have : K = [] := by
    rw [srt_len] at hn
    exact List.eq_nil_of_length_eq_zero (by omega)
  subst this; rfl
end Go.Proofs.Ytlefegihikpilaa

/- chapter 14: ClientPlays -/
namespace Go.Proofs.Ytlefegihikpilaa
set_option linter.all false
open Go.RowKit
set_option maxRecDepth 100000
def hdM : HdC := ⟨1099511627776, 0, List.replicate 32 0, by simp⟩
theorem hUM (c m : Nat) (K : List HdC) (hl : K.length ≤ 1000) (h1 : ¬ c = m) (h2 : ¬ m = c) : CT Try.prog 15 [.ptr c 0, .agg hdM.cs, .sl none 34 (hds [hdM])] (lk (cliO c m K)) (fun r o => r = .tup [.bool (upC K hdM [hdM]).2.1, .int .i64 (upC K hdM [hdM]).2.2] ∧ o = lk (cliO c m (upC K hdM [hdM]).1)) :=
  t_Update c m h1 h2 K [hdM] hdM (.sl none 34 (hds [hdM])) rfl (by simp) hl
set_option maxHeartbeats 8000000 in
theorem p_ClientPlays (l told : List HdC) (a : Int) : CP Try.prog 4 [.sl none 34 (hds l), .sl none 34 (hds told), .int .i64 a] (.bool true) := by
  refine ok_liglaw14_ClientPlays _ _ (by simp) ?_
  by_cases hl : l.length ≤ 40 ∧ told.length ≤ 40
  rotate_left
  · have F : Fact (¬ (l.length ≤ 40 ∧ told.length ≤ 40)) := hl
    clear hl
    simp only [c_liglaw14_ClientPlays, ↓Ed, Eu, ↓reduceIte, reduceCtorEq, Nat.reduceAdd, Nat.reduceEqDiff, Nat.reduceLT, Nat.reduceLeDiff, Int.reduceToNat, Int.reduceEq, Int.reduceLT, Int.reduceLE, w64, List.length_append, List.length_map, Nat.mul_one, beq_self_eq_true, HdC.cs, gdH, hds_len, rt_len, rt_take, rt_so, rt_sp2, zeros_rt, eqC_rt, hd_dec, Int.reduceAdd, hd0_h, hd0_t, Option.isSome_some, Option.isSome_none]
    repeat' ((first | refine CallO_pure (p_first) ?_ | refine NewB_intro0 (fun b => ?_) | (refine NewB_intro (fun b hb => ?_); simp only [ln_cons2, ln_nil, and_true] at hb) | (with_reducible apply And.intro; (focus (first | omega | (simp only [Fact, Bool.not_eq_true', Bool.not_eq_false', decide_eq_true_eq, decide_eq_false_iff_not] at *; omega)))) | ((first | refine gW_sp ?_ | refine condW_sp ?_ | refine pickW_sp ?_); (try refine Sp_n ?_); (first | refine Sp_t (by assumption) ?_ | refine Sp_f (by assumption) ?_ | refine Sp_split (fun h => ?_) (fun h => ?_)) <;> (first | have h' := Fact_lt h | have h' := Fact_nlt h | have h' := Fact_le h | have h' := Fact_nle h | skip) <;> (try (exfalso; omega))) | refine TreeW_intro (by rfl) ?_ | refine TreeW_all ?_ | refine upQ_intro ?_ | refine Two_intro ?_ ?_ | (refine leK_lit ?_; (simp [-List.getD_eq_getElem?_getD, LeL, lk, *]; done)) | (refine leK_dd ?_; (simp [-List.getD_eq_getElem?_getD, LeS, LeL, lk, *]; done)) | (simp only [Fact, Bool.not_eq_true', Bool.not_eq_false', decide_eq_true_eq, decide_eq_false_iff_not] at *; refine leK_dd ?_; (simp [-List.getD_eq_getElem?_getD, LeS, LeL, lk, *]; done)) | (show (_ : Nat) ≤ _; omega)) <;> (try simp (disch := omega) only [*, ↓Ed, Eu, ↓reduceIte, reduceCtorEq, Nat.reduceAdd, Nat.reduceEqDiff, Nat.reduceLT, Nat.reduceLeDiff, Int.reduceToNat, Int.reduceEq, Int.reduceLT, Int.reduceLE, w64, List.length_append, List.length_map, Nat.mul_one, beq_self_eq_true, HdC.cs, gdH, hds_len, rt_len, rt_take, rt_so, rt_sp2, zeros_rt, eqC_rt, hd_dec, Int.reduceAdd, hd0_h, hd0_t, Option.isSome_some, Option.isSome_none]))
    all_goals (exfalso; simp only [Fact, Bool.not_eq_true', Bool.not_eq_false', decide_eq_true_eq, decide_eq_false_iff_not] at *; omega)
  obtain ⟨l1, l2⟩ := hl
  have f1 : Fact (decide (40 < (l.length : Int)) = false) := by simp only [Fact, Bool.not_eq_true', Bool.not_eq_false', decide_eq_true_eq, decide_eq_false_iff_not]; omega
  have f2 : Fact (decide (40 < (told.length : Int)) = false) := by simp only [Fact, Bool.not_eq_true', Bool.not_eq_false', decide_eq_true_eq, decide_eq_false_iff_not]; omega
  simp only [c_liglaw14_ClientPlays, ↓Ed, Eu, ↓reduceIte, reduceCtorEq, Nat.reduceAdd, Nat.reduceEqDiff, Nat.reduceLT, Nat.reduceLeDiff, Int.reduceToNat, Int.reduceEq, Int.reduceLT, Int.reduceLE, w64, List.length_append, List.length_map, Nat.mul_one, beq_self_eq_true, HdC.cs, gdH, hds_len, rt_len, rt_take, rt_so, rt_sp2, zeros_rt, eqC_rt, hd_dec, Int.reduceAdd, hd0_h, hd0_t, Option.isSome_some, Option.isSome_none]
  repeat' ((first | refine CallO_pure (p_first) ?_ | (refine' CallO_new2 (o1 := []) (o2 := []) (t_New) (fun _ _ h => by simp [lk] at h) (fun _ _ => rfl) (NewB2_intro (fun c m hc hm hcm hmc => ?_)); simp only [ln_cons2, ln_nil, and_true] at hc hm) | refine NewB_intro0 (fun b => ?_) | (refine NewB_intro (fun b hb => ?_); simp only [ln_cons2, ln_nil, and_true] at hb) | (with_reducible apply And.intro; (focus (first | omega | (simp only [Fact, Bool.not_eq_true', Bool.not_eq_false', decide_eq_true_eq, decide_eq_false_iff_not] at *; omega)))) | ((first | refine gW_sp ?_ | refine condW_sp ?_ | refine pickW_sp ?_); (try refine Sp_n ?_); (first | refine Sp_t (by assumption) ?_ | refine Sp_f (by assumption) ?_ | refine Sp_split (fun h => ?_) (fun h => ?_)) <;> (first | have h' := Fact_lt h | have h' := Fact_nlt h | have h' := Fact_le h | have h' := Fact_nle h | skip) <;> (try (exfalso; omega))) | refine TreeW_intro (by rfl) ?_ | refine TreeW_all ?_ | refine upQ_intro ?_ | refine Two_intro ?_ ?_ | (refine leK_lit ?_; (simp [-List.getD_eq_getElem?_getD, LeL, lk, *]; done)) | (refine leK_dd ?_; (simp [-List.getD_eq_getElem?_getD, LeS, LeL, lk, *]; done)) | (simp only [Fact, Bool.not_eq_true', Bool.not_eq_false', decide_eq_true_eq, decide_eq_false_iff_not] at *; refine leK_dd ?_; (simp [-List.getD_eq_getElem?_getD, LeS, LeL, lk, *]; done)) | (show (_ : Nat) ≤ _; omega)) <;> (try simp (disch := omega) only [*, ↓Ed, Eu, ↓reduceIte, reduceCtorEq, Nat.reduceAdd, Nat.reduceEqDiff, Nat.reduceLT, Nat.reduceLeDiff, Int.reduceToNat, Int.reduceEq, Int.reduceLT, Int.reduceLE, w64, List.length_append, List.length_map, Nat.mul_one, beq_self_eq_true, HdC.cs, gdH, hds_len, rt_len, rt_take, rt_so, rt_sp2, zeros_rt, eqC_rt, hd_dec, Int.reduceAdd, hd0_h, hd0_t, Option.isSome_some, Option.isSome_none]))
  refine wpx_loop (fun x : Nat × Option Nat × List HdC => ⟨lk [(0, .sl none 34 (hds l)), (1, .sl none 34 (hds told)), (2, .int .i64 a), (7, .ptr c 0), (8, .sl x.2.1 34 (hds (srt x.2.2))), (9, .int .i64 (x.1 : Int))], lk (cliO c m x.2.2)⟩)
    (fun x => x.1 ≤ l.length ∧ Good x.2.2 x.1) (fun x => l.length - x.1) (0, some 30, []) ⟨by simp, good_nil⟩ (Le_lit (by simp [LeL, lk, hcm, hmc, srt, hds])) ?_
  rintro ⟨k, own, K⟩ ⟨g1, gK⟩
  simp only at g1 gK
  have hKl : K.length ≤ 40 := Nat.le_trans gK.ln (by omega)
  have hsl := srt_len K
  by_cases hk : k < l.length
  · have f5 : Fact (decide ((k : Int) < l.length) = true) := by simp only [Fact, Bool.not_eq_true', Bool.not_eq_false', decide_eq_true_eq, decide_eq_false_iff_not]; omega
    have hK1 := p_CheckHeader (srt K) told (.sl none 34 (hds (srt K))) (.sl none 34 (hds told)) rfl rfl (by omega) (by omega) (l.getD k default)
    rw [chk_srt gK.ap] at hK1
    have hK2 := t_Check c m hcm hmc K told (l.getD k default) (.sl none 34 (hds told)) rfl (by omega)
    have hK3 := t_Update c m hcm hmc K told (l.getD k default) (.sl none 34 (hds told)) rfl (by omega) (by omega)
    have hG := up_good gK (l.getD k default) told
    by_cases hc : chkH K (l.getD k default) told = 0
    · have hK4 := p_rUpdate (srt K) (.sl none 34 (hds (srt K))) rfl (by omega) (l.getD k default)
      rw [upd_srt gK.ap hc] at hK4
      rw [up_err, hc] at hK3
      rw [hc] at hK1 hK2
      generalize upC K (l.getD k default) told = U at hK3 hK4 hG
      obtain ⟨K', x, e⟩ := U
      simp only at hK3 hK4 hG
      clear hc hsl
      simp (disch := omega) only [hcm, hmc, ↓Ed, Eu, ↓reduceIte, reduceCtorEq, Nat.reduceAdd, Nat.reduceEqDiff, Nat.reduceLT, Nat.reduceLeDiff, Int.reduceToNat, Int.reduceEq, Int.reduceLT, Int.reduceLE, w64, List.length_append, List.length_map, Nat.mul_one, beq_self_eq_true, HdC.cs, gdH, hds_len, rt_len, rt_take, rt_so, rt_sp2, zeros_rt, eqC_rt, hd_dec, Int.reduceAdd, hd0_h, hd0_t, Option.isSome_some, Option.isSome_none]
      repeat' ((first | refine CallO_pure (hK1) ?_ | (refine' CallO_det (hK2) (lk_sub2 ?_ ?_) ?_; rotate_right 3; (focus ((repeat (first | exact lk_hd _ _ _ | (refine lk_tl ?_ ?_; (focus (first | assumption | (simp only [*, not_false_eq_true]; done)))))); done)); (focus ((repeat (first | exact lk_hd _ _ _ | (refine lk_tl ?_ ?_; (focus (first | assumption | (simp only [*, not_false_eq_true]; done)))))); done))) | (refine' CallO_det (hK3) (lk_sub2 ?_ ?_) ?_; rotate_right 3; (focus ((repeat (first | exact lk_hd _ _ _ | (refine lk_tl ?_ ?_; (focus (first | assumption | (simp only [*, not_false_eq_true]; done)))))); done)); (focus ((repeat (first | exact lk_hd _ _ _ | (refine lk_tl ?_ ?_; (focus (first | assumption | (simp only [*, not_false_eq_true]; done)))))); done))) | refine CallO_pure (hK4) ?_ | refine NewB_intro0 (fun b => ?_) | (refine NewB_intro (fun b hb => ?_); simp only [ln_cons2, ln_nil, and_true] at hb) | (with_reducible apply And.intro; (focus (first | omega | (simp only [Fact, Bool.not_eq_true', Bool.not_eq_false', decide_eq_true_eq, decide_eq_false_iff_not] at *; omega)))) | ((first | refine gW_sp ?_ | refine condW_sp ?_ | refine pickW_sp ?_); (try refine Sp_n ?_); (first | refine Sp_t (by assumption) ?_ | refine Sp_f (by assumption) ?_ | refine Sp_split (fun h => ?_) (fun h => ?_)) <;> (first | have h' := Fact_lt h | have h' := Fact_nlt h | have h' := Fact_le h | have h' := Fact_nle h | skip) <;> (try (exfalso; omega))) | refine TreeW_intro (by rfl) ?_ | refine TreeW_all ?_ | refine upQ_intro ?_ | refine Two_intro ?_ ?_ | (refine leK_lit ?_; (simp [-List.getD_eq_getElem?_getD, LeL, lk, *]; done)) | (refine leK_dd ?_; (simp [-List.getD_eq_getElem?_getD, LeS, LeL, lk, *]; done)) | (simp only [Fact, Bool.not_eq_true', Bool.not_eq_false', decide_eq_true_eq, decide_eq_false_iff_not] at *; refine leK_dd ?_; (simp [-List.getD_eq_getElem?_getD, LeS, LeL, lk, *]; done)) | (show (_ : Nat) ≤ _; omega)) <;> (try simp (disch := omega) only [*, ↓Ed, Eu, ↓reduceIte, reduceCtorEq, Nat.reduceAdd, Nat.reduceEqDiff, Nat.reduceLT, Nat.reduceLeDiff, Int.reduceToNat, Int.reduceEq, Int.reduceLT, Int.reduceLE, w64, List.length_append, List.length_map, Nat.mul_one, beq_self_eq_true, HdC.cs, gdH, hds_len, rt_len, rt_take, rt_so, rt_sp2, zeros_rt, eqC_rt, hd_dec, Int.reduceAdd, hd0_h, hd0_t, Option.isSome_some, Option.isSome_none]))
      all_goals exact Round_lit (k + 1, none, K') ⟨Le_lit (by simp [LeL, lk, hcm, hmc]), ⟨by simp; omega, hG⟩, by simp; omega⟩
    · have f6 : Fact (decide (chkH K (l.getD k default) told = 0) = false) := decide_eq_false hc
      rw [up_no hc] at hK3 hG
      simp only at hK3 hG
      generalize chkH K (l.getD k default) told = E at hK1 hK2 hK3 f6
      clear hc hsl
      simp (disch := omega) only [hcm, hmc, ↓Ed, Eu, ↓reduceIte, reduceCtorEq, Nat.reduceAdd, Nat.reduceEqDiff, Nat.reduceLT, Nat.reduceLeDiff, Int.reduceToNat, Int.reduceEq, Int.reduceLT, Int.reduceLE, w64, List.length_append, List.length_map, Nat.mul_one, beq_self_eq_true, HdC.cs, gdH, hds_len, rt_len, rt_take, rt_so, rt_sp2, zeros_rt, eqC_rt, hd_dec, Int.reduceAdd, hd0_h, hd0_t, Option.isSome_some, Option.isSome_none]
      repeat' ((first | refine CallO_pure (hK1) ?_ | (refine' CallO_det (hK2) (lk_sub2 ?_ ?_) ?_; rotate_right 3; (focus ((repeat (first | exact lk_hd _ _ _ | (refine lk_tl ?_ ?_; (focus (first | assumption | (simp only [*, not_false_eq_true]; done)))))); done)); (focus ((repeat (first | exact lk_hd _ _ _ | (refine lk_tl ?_ ?_; (focus (first | assumption | (simp only [*, not_false_eq_true]; done)))))); done))) | (refine' CallO_det (hK3) (lk_sub2 ?_ ?_) ?_; rotate_right 3; (focus ((repeat (first | exact lk_hd _ _ _ | (refine lk_tl ?_ ?_; (focus (first | assumption | (simp only [*, not_false_eq_true]; done)))))); done)); (focus ((repeat (first | exact lk_hd _ _ _ | (refine lk_tl ?_ ?_; (focus (first | assumption | (simp only [*, not_false_eq_true]; done)))))); done))) | refine NewB_intro0 (fun b => ?_) | (refine NewB_intro (fun b hb => ?_); simp only [ln_cons2, ln_nil, and_true] at hb) | (with_reducible apply And.intro; (focus (first | omega | (simp only [Fact, Bool.not_eq_true', Bool.not_eq_false', decide_eq_true_eq, decide_eq_false_iff_not] at *; omega)))) | ((first | refine gW_sp ?_ | refine condW_sp ?_ | refine pickW_sp ?_); (try refine Sp_n ?_); (first | refine Sp_t (by assumption) ?_ | refine Sp_f (by assumption) ?_ | refine Sp_split (fun h => ?_) (fun h => ?_)) <;> (first | have h' := Fact_lt h | have h' := Fact_nlt h | have h' := Fact_le h | have h' := Fact_nle h | skip) <;> (try (exfalso; omega))) | refine TreeW_intro (by rfl) ?_ | refine TreeW_all ?_ | refine upQ_intro ?_ | refine Two_intro ?_ ?_ | (refine leK_lit ?_; (simp [-List.getD_eq_getElem?_getD, LeL, lk, *]; done)) | (refine leK_dd ?_; (simp [-List.getD_eq_getElem?_getD, LeS, LeL, lk, *]; done)) | (simp only [Fact, Bool.not_eq_true', Bool.not_eq_false', decide_eq_true_eq, decide_eq_false_iff_not] at *; refine leK_dd ?_; (simp [-List.getD_eq_getElem?_getD, LeS, LeL, lk, *]; done)) | (show (_ : Nat) ≤ _; omega)) <;> (try simp (disch := omega) only [*, ↓Ed, Eu, ↓reduceIte, reduceCtorEq, Nat.reduceAdd, Nat.reduceEqDiff, Nat.reduceLT, Nat.reduceLeDiff, Int.reduceToNat, Int.reduceEq, Int.reduceLT, Int.reduceLE, w64, List.length_append, List.length_map, Nat.mul_one, beq_self_eq_true, HdC.cs, gdH, hds_len, rt_len, rt_take, rt_so, rt_sp2, zeros_rt, eqC_rt, hd_dec, Int.reduceAdd, hd0_h, hd0_t, Option.isSome_some, Option.isSome_none]))
      all_goals exact Round_lit (k + 1, own, K) ⟨Le_lit (by simp [LeL, lk, hcm, hmc]), ⟨by simp; omega, hG⟩, by simp; omega⟩
  · have f5 : Fact (decide ((k : Int) < l.length) = false) := by simp only [Fact, Bool.not_eq_true', Bool.not_eq_false', decide_eq_true_eq, decide_eq_false_iff_not]; omega
    have hS := t_State c m hcm hmc K a
    have hN := p_Known (srt K) (.sl none 34 (hds (srt K))) rfl (by omega) a
    rw [stH_srt gK.ap] at hN
    have hC := t_Copy c m hcm hmc K
    have hT := t_States c m hcm hmc K gK.bd0 gK.ap (by omega)
    have hH := p_Headers (srt K) (srt K) (.sl none 34 (hds (srt K))) (.sl none 34 (hds (srt K))) rfl rfl (by omega) (by omega)
    rw [decide_eq_true rfl] at hH
    have hLa := t_Last c m hcm hmc K
    generalize (stH K a).getD default = X at hS hN
    generalize (stH K a).isSome = Y at hS hN
    have hU := fun d dm => hUM d dm K (by omega)
    by_cases hn : 0 < (srt K).length
    · have f6 : Fact (decide (0 < ((srt K).length : Int)) = true) := by simp only [Fact, Bool.not_eq_true', Bool.not_eq_false', decide_eq_true_eq, decide_eq_false_iff_not]; omega
      have e := last_srt gK hn
      have e2 : (((srt K).length : Int) - 1).toNat = (srt K).length - 1 := by omega
      have hs40 : (srt K).length ≤ 40 := by omega
      rw [← e] at hLa
      clear gK hsl hKl e
      simp (disch := omega) only [hcm, hmc, ↓Ed, Eu, ↓reduceIte, reduceCtorEq, Nat.reduceAdd, Nat.reduceEqDiff, Nat.reduceLT, Nat.reduceLeDiff, Int.reduceToNat, Int.reduceEq, Int.reduceLT, Int.reduceLE, w64, List.length_append, List.length_map, Nat.mul_one, beq_self_eq_true, HdC.cs, gdH, hds_len, rt_len, rt_take, rt_so, rt_sp2, zeros_rt, eqC_rt, hd_dec, Int.reduceAdd, hd0_h, hd0_t, Option.isSome_some, Option.isSome_none]
      repeat' ((first | (refine' CallO_det (hS) (lk_sub2 ?_ ?_) ?_; rotate_right 3; (focus ((repeat (first | exact lk_hd _ _ _ | (refine lk_tl ?_ ?_; (focus (first | assumption | (simp only [*, not_false_eq_true]; done)))))); done)); (focus ((repeat (first | exact lk_hd _ _ _ | (refine lk_tl ?_ ?_; (focus (first | assumption | (simp only [*, not_false_eq_true]; done)))))); done))) | refine CallO_pure (hN) ?_ | (refine CallO_new2 (o1 := cliO c m K) (o2 := cliO c m K) hC (lk_sub2 (by simp [lk, *]) (by simp [lk, *])) (fun _ h => h) (NewB2_intro (fun d dm hd hdm hddm hdmd => ?_)); simp only [ln_cons2, ln_nil, and_true] at hd hdm) | (refine' CallO_det (hU _ _ (by assumption) (by assumption)) (lk_sub2 ?_ ?_) ?_; rotate_right 3; (focus ((repeat (first | exact lk_hd _ _ _ | (refine lk_tl ?_ ?_; (focus (first | assumption | (simp only [*, not_false_eq_true]; done)))))); done)); (focus ((repeat (first | exact lk_hd _ _ _ | (refine lk_tl ?_ ?_; (focus (first | assumption | (simp only [*, not_false_eq_true]; done)))))); done))) | (refine' CallO_det (hLa) (lk_sub2 ?_ ?_) ?_; rotate_right 3; (focus ((repeat (first | exact lk_hd _ _ _ | (refine lk_tl ?_ ?_; (focus (first | assumption | (simp only [*, not_false_eq_true]; done)))))); done)); (focus ((repeat (first | exact lk_hd _ _ _ | (refine lk_tl ?_ ?_; (focus (first | assumption | (simp only [*, not_false_eq_true]; done)))))); done))) | (refine' CallO_det (hT) (lk_sub2 ?_ ?_) ?_; rotate_right 3; (focus ((repeat (first | exact lk_hd _ _ _ | (refine lk_tl ?_ ?_; (focus (first | assumption | (simp only [*, not_false_eq_true]; done)))))); done)); (focus ((repeat (first | exact lk_hd _ _ _ | (refine lk_tl ?_ ?_; (focus (first | assumption | (simp only [*, not_false_eq_true]; done)))))); done))) | refine CallO_pure (hH) ?_ | refine NewB_intro0 (fun b => ?_) | (refine NewB_intro (fun b hb => ?_); simp only [ln_cons2, ln_nil, and_true] at hb) | (with_reducible apply And.intro; (focus (first | omega | (simp only [Fact, Bool.not_eq_true', Bool.not_eq_false', decide_eq_true_eq, decide_eq_false_iff_not] at *; omega)))) | ((first | refine gW_sp ?_ | refine condW_sp ?_ | refine pickW_sp ?_); (try refine Sp_n ?_); (first | refine Sp_t (by assumption) ?_ | refine Sp_f (by assumption) ?_ | refine Sp_split (fun h => ?_) (fun h => ?_)) <;> (first | have h' := Fact_lt h | have h' := Fact_nlt h | have h' := Fact_le h | have h' := Fact_nle h | skip) <;> (try (exfalso; omega))) | refine TreeW_intro (by rfl) ?_ | refine TreeW_all ?_ | refine upQ_intro ?_ | refine Two_intro ?_ ?_ | (refine leK_lit ?_; (simp [-List.getD_eq_getElem?_getD, LeL, lk, *]; done)) | (refine leK_dd ?_; (simp [-List.getD_eq_getElem?_getD, LeS, LeL, lk, *]; done)) | (simp only [Fact, Bool.not_eq_true', Bool.not_eq_false', decide_eq_true_eq, decide_eq_false_iff_not] at *; refine leK_dd ?_; (simp [-List.getD_eq_getElem?_getD, LeS, LeL, lk, *]; done)) | (show (_ : Nat) ≤ _; omega)) <;> (try simp (disch := omega) only [*, ↓Ed, Eu, ↓reduceIte, reduceCtorEq, Nat.reduceAdd, Nat.reduceEqDiff, Nat.reduceLT, Nat.reduceLeDiff, Int.reduceToNat, Int.reduceEq, Int.reduceLT, Int.reduceLE, w64, List.length_append, List.length_map, Nat.mul_one, beq_self_eq_true, HdC.cs, gdH, hds_len, rt_len, rt_take, rt_so, rt_sp2, zeros_rt, eqC_rt, hd_dec, Int.reduceAdd, hd0_h, hd0_t, Option.isSome_some, Option.isSome_none]))
    · have f6 : Fact (decide (0 < ((srt K).length : Int)) = false) := by simp only [Fact, Bool.not_eq_true', Bool.not_eq_false', decide_eq_true_eq, decide_eq_false_iff_not]; omega
      have e := last_nil hn
      rw [e] at hLa
      clear gK hsl hn
      simp (disch := omega) only [hcm, hmc, ↓Ed, Eu, ↓reduceIte, reduceCtorEq, Nat.reduceAdd, Nat.reduceEqDiff, Nat.reduceLT, Nat.reduceLeDiff, Int.reduceToNat, Int.reduceEq, Int.reduceLT, Int.reduceLE, w64, List.length_append, List.length_map, Nat.mul_one, beq_self_eq_true, HdC.cs, gdH, hds_len, rt_len, rt_take, rt_so, rt_sp2, zeros_rt, eqC_rt, hd_dec, Int.reduceAdd, hd0_h, hd0_t, Option.isSome_some, Option.isSome_none]
      repeat' ((first | (refine' CallO_det (hS) (lk_sub2 ?_ ?_) ?_; rotate_right 3; (focus ((repeat (first | exact lk_hd _ _ _ | (refine lk_tl ?_ ?_; (focus (first | assumption | (simp only [*, not_false_eq_true]; done)))))); done)); (focus ((repeat (first | exact lk_hd _ _ _ | (refine lk_tl ?_ ?_; (focus (first | assumption | (simp only [*, not_false_eq_true]; done)))))); done))) | refine CallO_pure (hN) ?_ | (refine CallO_new2 (o1 := cliO c m K) (o2 := cliO c m K) hC (lk_sub2 (by simp [lk, *]) (by simp [lk, *])) (fun _ h => h) (NewB2_intro (fun d dm hd hdm hddm hdmd => ?_)); simp only [ln_cons2, ln_nil, and_true] at hd hdm) | (refine' CallO_det (hU _ _ (by assumption) (by assumption)) (lk_sub2 ?_ ?_) ?_; rotate_right 3; (focus ((repeat (first | exact lk_hd _ _ _ | (refine lk_tl ?_ ?_; (focus (first | assumption | (simp only [*, not_false_eq_true]; done)))))); done)); (focus ((repeat (first | exact lk_hd _ _ _ | (refine lk_tl ?_ ?_; (focus (first | assumption | (simp only [*, not_false_eq_true]; done)))))); done))) | (refine' CallO_det (hLa) (lk_sub2 ?_ ?_) ?_; rotate_right 3; (focus ((repeat (first | exact lk_hd _ _ _ | (refine lk_tl ?_ ?_; (focus (first | assumption | (simp only [*, not_false_eq_true]; done)))))); done)); (focus ((repeat (first | exact lk_hd _ _ _ | (refine lk_tl ?_ ?_; (focus (first | assumption | (simp only [*, not_false_eq_true]; done)))))); done))) | (refine' CallO_det (hT) (lk_sub2 ?_ ?_) ?_; rotate_right 3; (focus ((repeat (first | exact lk_hd _ _ _ | (refine lk_tl ?_ ?_; (focus (first | assumption | (simp only [*, not_false_eq_true]; done)))))); done)); (focus ((repeat (first | exact lk_hd _ _ _ | (refine lk_tl ?_ ?_; (focus (first | assumption | (simp only [*, not_false_eq_true]; done)))))); done))) | refine CallO_pure (hH) ?_ | refine NewB_intro0 (fun b => ?_) | (refine NewB_intro (fun b hb => ?_); simp only [ln_cons2, ln_nil, and_true] at hb) | (with_reducible apply And.intro; (focus (first | omega | (simp only [Fact, Bool.not_eq_true', Bool.not_eq_false', decide_eq_true_eq, decide_eq_false_iff_not] at *; omega)))) | ((first | refine gW_sp ?_ | refine condW_sp ?_ | refine pickW_sp ?_); (try refine Sp_n ?_); (first | refine Sp_t (by assumption) ?_ | refine Sp_f (by assumption) ?_ | refine Sp_split (fun h => ?_) (fun h => ?_)) <;> (first | have h' := Fact_lt h | have h' := Fact_nlt h | have h' := Fact_le h | have h' := Fact_nle h | skip) <;> (try (exfalso; omega))) | refine TreeW_intro (by rfl) ?_ | refine TreeW_all ?_ | refine upQ_intro ?_ | refine Two_intro ?_ ?_ | (refine leK_lit ?_; (simp [-List.getD_eq_getElem?_getD, LeL, lk, *]; done)) | (refine leK_dd ?_; (simp [-List.getD_eq_getElem?_getD, LeS, LeL, lk, *]; done)) | (simp only [Fact, Bool.not_eq_true', Bool.not_eq_false', decide_eq_true_eq, decide_eq_false_iff_not] at *; refine leK_dd ?_; (simp [-List.getD_eq_getElem?_getD, LeS, LeL, lk, *]; done)) | (show (_ : Nat) ≤ _; omega)) <;> (try simp (disch := omega) only [*, ↓Ed, Eu, ↓reduceIte, reduceCtorEq, Nat.reduceAdd, Nat.reduceEqDiff, Nat.reduceLT, Nat.reduceLeDiff, Int.reduceToNat, Int.reduceEq, Int.reduceLT, Int.reduceLE, w64, List.length_append, List.length_map, Nat.mul_one, beq_self_eq_true, HdC.cs, gdH, hds_len, rt_len, rt_take, rt_so, rt_sp2, zeros_rt, eqC_rt, hd_dec, Int.reduceAdd, hd0_h, hd0_t, Option.isSome_some, Option.isSome_none]))
end Go.Proofs.Ytlefegihikpilaa

/- chapter 14: ClientCopies -/
namespace Go.Proofs.Ytlefegihikpilaa
set_option linter.all false
open Go.RowKit
set_option maxRecDepth 100000
set_option maxHeartbeats 8000000 in
theorem p_ClientCopies (l l' told : List HdC) : CP Try.prog 5 [.sl none 34 (hds l), .sl none 34 (hds l'), .sl none 34 (hds told)] (.bool true) := by
  refine ok_liglaw14_ClientCopies _ _ (by simp) ?_
  by_cases hl : l.length ≤ 20 ∧ l'.length ≤ 20 ∧ told.length ≤ 40
  rotate_left
  · have F : Fact (¬ (l.length ≤ 20 ∧ l'.length ≤ 20 ∧ told.length ≤ 40)) := hl
    clear hl
    simp only [c_liglaw14_ClientCopies, ↓Ed, Eu, ↓reduceIte, reduceCtorEq, Nat.reduceAdd, Nat.reduceEqDiff, Nat.reduceLT, Nat.reduceLeDiff, Int.reduceToNat, Int.reduceEq, Int.reduceLT, Int.reduceLE, w64, List.length_append, List.length_map, Nat.mul_one, beq_self_eq_true, HdC.cs, gdH, hds_len, rt_len, rt_take, rt_so, rt_sp2, zeros_rt, eqC_rt, hd_dec, Int.reduceAdd, hd0_h, hd0_t, Option.isSome_some, Option.isSome_none]
    repeat' ((first | refine CallO_pure (p_first) ?_ | refine NewB_intro0 (fun b => ?_) | (refine NewB_intro (fun b hb => ?_); simp only [ln_cons2, ln_nil, and_true] at hb) | (with_reducible apply And.intro; (focus (first | omega | (simp only [Fact, Bool.not_eq_true', Bool.not_eq_false', decide_eq_true_eq, decide_eq_false_iff_not] at *; omega)))) | ((first | refine gW_sp ?_ | refine condW_sp ?_ | refine pickW_sp ?_); (try refine Sp_n ?_); (first | refine Sp_t (by assumption) ?_ | refine Sp_f (by assumption) ?_ | refine Sp_split (fun h => ?_) (fun h => ?_)) <;> (first | have h' := Fact_lt h | have h' := Fact_nlt h | have h' := Fact_le h | have h' := Fact_nle h | skip) <;> (try (exfalso; omega))) | refine TreeW_intro (by rfl) ?_ | refine TreeW_all ?_ | refine upQ_intro ?_ | refine Two_intro ?_ ?_ | (refine leK_lit ?_; (simp [-List.getD_eq_getElem?_getD, LeL, lk, *]; done)) | (refine leK_dd ?_; (simp [-List.getD_eq_getElem?_getD, LeS, LeL, lk, *]; done)) | (simp only [Fact, Bool.not_eq_true', Bool.not_eq_false', decide_eq_true_eq, decide_eq_false_iff_not] at *; refine leK_dd ?_; (simp [-List.getD_eq_getElem?_getD, LeS, LeL, lk, *]; done)) | (show (_ : Nat) ≤ _; omega)) <;> (try simp (disch := omega) only [*, ↓Ed, Eu, ↓reduceIte, reduceCtorEq, Nat.reduceAdd, Nat.reduceEqDiff, Nat.reduceLT, Nat.reduceLeDiff, Int.reduceToNat, Int.reduceEq, Int.reduceLT, Int.reduceLE, w64, List.length_append, List.length_map, Nat.mul_one, beq_self_eq_true, HdC.cs, gdH, hds_len, rt_len, rt_take, rt_so, rt_sp2, zeros_rt, eqC_rt, hd_dec, Int.reduceAdd, hd0_h, hd0_t, Option.isSome_some, Option.isSome_none]))
    all_goals (exfalso; simp only [Fact, Bool.not_eq_true', Bool.not_eq_false', decide_eq_true_eq, decide_eq_false_iff_not] at *; omega)
  obtain ⟨l1, l2, l3⟩ := hl
  have f1 : Fact (decide (20 < (l.length : Int)) = false) := by simp only [Fact, Bool.not_eq_true', Bool.not_eq_false', decide_eq_true_eq, decide_eq_false_iff_not]; omega
  have f2 : Fact (decide (20 < (l'.length : Int)) = false) := by simp only [Fact, Bool.not_eq_true', Bool.not_eq_false', decide_eq_true_eq, decide_eq_false_iff_not]; omega
  have f3 : Fact (decide (40 < (told.length : Int)) = false) := by simp only [Fact, Bool.not_eq_true', Bool.not_eq_false', decide_eq_true_eq, decide_eq_false_iff_not]; omega
  simp only [c_liglaw14_ClientCopies, ↓Ed, Eu, ↓reduceIte, reduceCtorEq, Nat.reduceAdd, Nat.reduceEqDiff, Nat.reduceLT, Nat.reduceLeDiff, Int.reduceToNat, Int.reduceEq, Int.reduceLT, Int.reduceLE, w64, List.length_append, List.length_map, Nat.mul_one, beq_self_eq_true, HdC.cs, gdH, hds_len, rt_len, rt_take, rt_so, rt_sp2, zeros_rt, eqC_rt, hd_dec, Int.reduceAdd, hd0_h, hd0_t, Option.isSome_some, Option.isSome_none]
  repeat' ((first | refine CallO_pure (p_first) ?_ | (refine' CallO_new2 (o1 := []) (o2 := []) (t_New) (fun _ _ h => by simp [lk] at h) (fun _ _ => rfl) (NewB2_intro (fun c m hc hm hcm hmc => ?_)); simp only [ln_cons2, ln_nil, and_true] at hc hm) | refine NewB_intro0 (fun b => ?_) | (refine NewB_intro (fun b hb => ?_); simp only [ln_cons2, ln_nil, and_true] at hb) | (with_reducible apply And.intro; (focus (first | omega | (simp only [Fact, Bool.not_eq_true', Bool.not_eq_false', decide_eq_true_eq, decide_eq_false_iff_not] at *; omega)))) | ((first | refine gW_sp ?_ | refine condW_sp ?_ | refine pickW_sp ?_); (try refine Sp_n ?_); (first | refine Sp_t (by assumption) ?_ | refine Sp_f (by assumption) ?_ | refine Sp_split (fun h => ?_) (fun h => ?_)) <;> (first | have h' := Fact_lt h | have h' := Fact_nlt h | have h' := Fact_le h | have h' := Fact_nle h | skip) <;> (try (exfalso; omega))) | refine TreeW_intro (by rfl) ?_ | refine TreeW_all ?_ | refine upQ_intro ?_ | refine Two_intro ?_ ?_ | (refine leK_lit ?_; (simp [-List.getD_eq_getElem?_getD, LeL, lk, *]; done)) | (refine leK_dd ?_; (simp [-List.getD_eq_getElem?_getD, LeS, LeL, lk, *]; done)) | (simp only [Fact, Bool.not_eq_true', Bool.not_eq_false', decide_eq_true_eq, decide_eq_false_iff_not] at *; refine leK_dd ?_; (simp [-List.getD_eq_getElem?_getD, LeS, LeL, lk, *]; done)) | (show (_ : Nat) ≤ _; omega)) <;> (try simp (disch := omega) only [*, ↓Ed, Eu, ↓reduceIte, reduceCtorEq, Nat.reduceAdd, Nat.reduceEqDiff, Nat.reduceLT, Nat.reduceLeDiff, Int.reduceToNat, Int.reduceEq, Int.reduceLT, Int.reduceLE, w64, List.length_append, List.length_map, Nat.mul_one, beq_self_eq_true, HdC.cs, gdH, hds_len, rt_len, rt_take, rt_so, rt_sp2, zeros_rt, eqC_rt, hd_dec, Int.reduceAdd, hd0_h, hd0_t, Option.isSome_some, Option.isSome_none]))
  rename_i c1 m1 hcm1 hmc1 hc1 hm1
  refine wpx_loop (fun x : Nat × List HdC => ⟨lk [(0, .sl none 34 (hds l)), (1, .sl none 34 (hds l')), (2, .sl none 34 (hds told)), (7, .ptr c1 0), (8, .ptr c 0), (9, .int .i64 (x.1 : Int))], lk [(c1, [.mapv m1]), (m1, [mpH x.2]), (c, [.mapv m]), (m, [mpH x.2])]⟩)
    (fun x => x.1 ≤ l.length ∧ Good x.2 x.1) (fun x => l.length - x.1) (0, []) ⟨by simp, good_nil⟩ (Le_lit (by simp [LeL, lk, *])) ?_
  rintro ⟨k, K⟩ ⟨g1, gK⟩
  simp only at g1 gK
  have hKl : K.length ≤ 20 := Nat.le_trans gK.ln (by omega)
  have hsl := srt_len K
  by_cases hk : k < l.length
  · have f5 : Fact (decide ((k : Int) < l.length) = true) := by simp only [Fact, Bool.not_eq_true', Bool.not_eq_false', decide_eq_true_eq, decide_eq_false_iff_not]; omega
    have hK3 := fun c m h1 h2 => t_Update c m h1 h2 K told (l.getD k default) (.sl none 34 (hds told)) rfl (by omega) (by omega)
    have hG := up_good gK (l.getD k default) told
    generalize upC K (l.getD k default) told = U at hK3 hG
    obtain ⟨K', x, e⟩ := U
    simp only at hK3 hG
    clear hsl
    simp (disch := omega) only [hcm, hmc, hcm1, hmc1, hc, hm, ↓Ed, Eu, ↓reduceIte, reduceCtorEq, Nat.reduceAdd, Nat.reduceEqDiff, Nat.reduceLT, Nat.reduceLeDiff, Int.reduceToNat, Int.reduceEq, Int.reduceLT, Int.reduceLE, w64, List.length_append, List.length_map, Nat.mul_one, beq_self_eq_true, HdC.cs, gdH, hds_len, rt_len, rt_take, rt_so, rt_sp2, zeros_rt, eqC_rt, hd_dec, Int.reduceAdd, hd0_h, hd0_t, Option.isSome_some, Option.isSome_none]
    repeat' ((first | (refine' CallO_det (hK3 _ _ (by assumption) (by assumption)) (lk_sub2 ?_ ?_) ?_; rotate_right 3; (focus ((repeat (first | exact lk_hd _ _ _ | (refine lk_tl ?_ ?_; (focus (first | assumption | (simp only [*, not_false_eq_true]; done)))))); done)); (focus ((repeat (first | exact lk_hd _ _ _ | (refine lk_tl ?_ ?_; (focus (first | assumption | (simp only [*, not_false_eq_true]; done)))))); done))) | refine NewB_intro0 (fun b => ?_) | (refine NewB_intro (fun b hb => ?_); simp only [ln_cons2, ln_nil, and_true] at hb) | (with_reducible apply And.intro; (focus (first | omega | (simp only [Fact, Bool.not_eq_true', Bool.not_eq_false', decide_eq_true_eq, decide_eq_false_iff_not] at *; omega)))) | ((first | refine gW_sp ?_ | refine condW_sp ?_ | refine pickW_sp ?_); (try refine Sp_n ?_); (first | refine Sp_t (by assumption) ?_ | refine Sp_f (by assumption) ?_ | refine Sp_split (fun h => ?_) (fun h => ?_)) <;> (first | have h' := Fact_lt h | have h' := Fact_nlt h | have h' := Fact_le h | have h' := Fact_nle h | skip) <;> (try (exfalso; omega))) | refine TreeW_intro (by rfl) ?_ | refine TreeW_all ?_ | refine upQ_intro ?_ | refine Two_intro ?_ ?_ | (refine leK_lit ?_; (simp [-List.getD_eq_getElem?_getD, LeL, lk, *]; done)) | (refine leK_dd ?_; (simp [-List.getD_eq_getElem?_getD, LeS, LeL, lk, *]; done)) | (simp only [Fact, Bool.not_eq_true', Bool.not_eq_false', decide_eq_true_eq, decide_eq_false_iff_not] at *; refine leK_dd ?_; (simp [-List.getD_eq_getElem?_getD, LeS, LeL, lk, *]; done)) | (show (_ : Nat) ≤ _; omega)) <;> (try simp (disch := omega) only [*, ↓Ed, Eu, ↓reduceIte, reduceCtorEq, Nat.reduceAdd, Nat.reduceEqDiff, Nat.reduceLT, Nat.reduceLeDiff, Int.reduceToNat, Int.reduceEq, Int.reduceLT, Int.reduceLE, w64, List.length_append, List.length_map, Nat.mul_one, beq_self_eq_true, HdC.cs, gdH, hds_len, rt_len, rt_take, rt_so, rt_sp2, zeros_rt, eqC_rt, hd_dec, Int.reduceAdd, hd0_h, hd0_t, Option.isSome_some, Option.isSome_none]))
    all_goals exact Round_lit (k + 1, K') ⟨Le_lit (by simp [LeL, lk, *]), ⟨by simp; omega, hG⟩, by simp; omega⟩
  · have f5 : Fact (decide ((k : Int) < l.length) = false) := by simp only [Fact, Bool.not_eq_true', Bool.not_eq_false', decide_eq_true_eq, decide_eq_false_iff_not]; omega
    have hC := t_Copy c1 m1 hcm1 hmc1 K
    have hT := t_States c1 m1 hcm1 hmc1 K gK.bd0 gK.ap (by omega)
    have gK20 : Good K 20 := gK.mono (by omega)
    simp (disch := omega) only [hcm, hmc, hcm1, hmc1, hc, hm, ↓Ed, Eu, ↓reduceIte, reduceCtorEq, Nat.reduceAdd, Nat.reduceEqDiff, Nat.reduceLT, Nat.reduceLeDiff, Int.reduceToNat, Int.reduceEq, Int.reduceLT, Int.reduceLE, w64, List.length_append, List.length_map, Nat.mul_one, beq_self_eq_true, HdC.cs, gdH, hds_len, rt_len, rt_take, rt_so, rt_sp2, zeros_rt, eqC_rt, hd_dec, Int.reduceAdd, hd0_h, hd0_t, Option.isSome_some, Option.isSome_none]
    repeat' ((first | (refine CallO_new2 (o1 := cliO c1 m1 K) (o2 := cliO c1 m1 K) hC (lk_sub2 (by simp [lk, *]) (by simp [lk, *])) (fun _ h => h) (NewB2_intro (fun d dm hd hdm hddm hdmd => ?_)); simp only [ln_cons2, ln_nil, and_true] at hd hdm) | (refine' CallO_det (hT) (lk_sub2 ?_ ?_) ?_; rotate_right 3; (focus ((repeat (first | exact lk_hd _ _ _ | (refine lk_tl ?_ ?_; (focus (first | assumption | (simp only [*, not_false_eq_true]; done)))))); done)); (focus ((repeat (first | exact lk_hd _ _ _ | (refine lk_tl ?_ ?_; (focus (first | assumption | (simp only [*, not_false_eq_true]; done)))))); done))) | refine NewB_intro0 (fun b => ?_) | (refine NewB_intro (fun b hb => ?_); simp only [ln_cons2, ln_nil, and_true] at hb) | (with_reducible apply And.intro; (focus (first | omega | (simp only [Fact, Bool.not_eq_true', Bool.not_eq_false', decide_eq_true_eq, decide_eq_false_iff_not] at *; omega)))) | ((first | refine gW_sp ?_ | refine condW_sp ?_ | refine pickW_sp ?_); (try refine Sp_n ?_); (first | refine Sp_t (by assumption) ?_ | refine Sp_f (by assumption) ?_ | refine Sp_split (fun h => ?_) (fun h => ?_)) <;> (first | have h' := Fact_lt h | have h' := Fact_nlt h | have h' := Fact_le h | have h' := Fact_nle h | skip) <;> (try (exfalso; omega))) | refine TreeW_intro (by rfl) ?_ | refine TreeW_all ?_ | refine upQ_intro ?_ | refine Two_intro ?_ ?_ | (refine leK_lit ?_; (simp [-List.getD_eq_getElem?_getD, LeL, lk, *]; done)) | (refine leK_dd ?_; (simp [-List.getD_eq_getElem?_getD, LeS, LeL, lk, *]; done)) | (simp only [Fact, Bool.not_eq_true', Bool.not_eq_false', decide_eq_true_eq, decide_eq_false_iff_not] at *; refine leK_dd ?_; (simp [-List.getD_eq_getElem?_getD, LeS, LeL, lk, *]; done)) | (show (_ : Nat) ≤ _; omega)) <;> (try simp (disch := omega) only [*, ↓Ed, Eu, ↓reduceIte, reduceCtorEq, Nat.reduceAdd, Nat.reduceEqDiff, Nat.reduceLT, Nat.reduceLeDiff, Int.reduceToNat, Int.reduceEq, Int.reduceLT, Int.reduceLE, w64, List.length_append, List.length_map, Nat.mul_one, beq_self_eq_true, HdC.cs, gdH, hds_len, rt_len, rt_take, rt_so, rt_sp2, zeros_rt, eqC_rt, hd_dec, Int.reduceAdd, hd0_h, hd0_t, Option.isSome_some, Option.isSome_none]))
    have gK2 := gK20
    refine wpx_loop (fun x : Nat × List HdC => ⟨lk [(0, .sl none 34 (hds l)), (1, .sl none 34 (hds l')), (2, .sl none 34 (hds told)), (7, .ptr c1 0), (8, .ptr c 0), (10, .ptr d 0), (11, .sl (some 30) 34 (hds (srt K))), (12, .int .i64 (x.1 : Int))], lk [(c1, [.mapv m1]), (m1, [mpH K]), (c, [.mapv m]), (m, [mpH x.2]), (d, [.mapv dm]), (dm, [mpH x.2])]⟩)
      (fun x => x.1 ≤ l'.length ∧ Good x.2 (20 + x.1)) (fun x => l'.length - x.1) (0, K) ⟨by simp, gK20⟩ (Le_lit (by simp [LeL, lk, *])) ?_
    rintro ⟨j, K2⟩ ⟨j1, jK⟩
    simp only at j1 jK
    have hK2l : K2.length ≤ 40 := Nat.le_trans jK.ln (by omega)
    by_cases hj : j < l'.length
    · have f6 : Fact (decide ((j : Int) < l'.length) = true) := by simp only [Fact, Bool.not_eq_true', Bool.not_eq_false', decide_eq_true_eq, decide_eq_false_iff_not]; omega
      have hK3 := fun c m h1 h2 => t_Update c m h1 h2 K2 told (l'.getD j default) (.sl none 34 (hds told)) rfl (by omega) (by omega)
      have hG := up_good jK (l'.getD j default) told
      generalize upC K2 (l'.getD j default) told = U at hK3 hG
      obtain ⟨K', x, e⟩ := U
      simp only at hK3 hG
      clear hsl hC hT gK gK2 gK20
      simp (disch := omega) only [hcm, hmc, hcm1, hmc1, hc, hm, hd, hdm, hddm, hdmd, ↓Ed, Eu, ↓reduceIte, reduceCtorEq, Nat.reduceAdd, Nat.reduceEqDiff, Nat.reduceLT, Nat.reduceLeDiff, Int.reduceToNat, Int.reduceEq, Int.reduceLT, Int.reduceLE, w64, List.length_append, List.length_map, Nat.mul_one, beq_self_eq_true, HdC.cs, gdH, hds_len, rt_len, rt_take, rt_so, rt_sp2, zeros_rt, eqC_rt, hd_dec, Int.reduceAdd, hd0_h, hd0_t, Option.isSome_some, Option.isSome_none]
      repeat' ((first | (refine' CallO_det (hK3 _ _ (by assumption) (by assumption)) (lk_sub2 ?_ ?_) ?_; rotate_right 3; (focus ((repeat (first | exact lk_hd _ _ _ | (refine lk_tl ?_ ?_; (focus (first | assumption | (simp only [*, not_false_eq_true]; done)))))); done)); (focus ((repeat (first | exact lk_hd _ _ _ | (refine lk_tl ?_ ?_; (focus (first | assumption | (simp only [*, not_false_eq_true]; done)))))); done))) | refine NewB_intro0 (fun b => ?_) | (refine NewB_intro (fun b hb => ?_); simp only [ln_cons2, ln_nil, and_true] at hb) | (with_reducible apply And.intro; (focus (first | omega | (simp only [Fact, Bool.not_eq_true', Bool.not_eq_false', decide_eq_true_eq, decide_eq_false_iff_not] at *; omega)))) | ((first | refine gW_sp ?_ | refine condW_sp ?_ | refine pickW_sp ?_); (try refine Sp_n ?_); (first | refine Sp_t (by assumption) ?_ | refine Sp_f (by assumption) ?_ | refine Sp_split (fun h => ?_) (fun h => ?_)) <;> (first | have h' := Fact_lt h | have h' := Fact_nlt h | have h' := Fact_le h | have h' := Fact_nle h | skip) <;> (try (exfalso; omega))) | refine TreeW_intro (by rfl) ?_ | refine TreeW_all ?_ | refine upQ_intro ?_ | refine Two_intro ?_ ?_ | (refine leK_lit ?_; (simp [-List.getD_eq_getElem?_getD, LeL, lk, *]; done)) | (refine leK_dd ?_; (simp [-List.getD_eq_getElem?_getD, LeS, LeL, lk, *]; done)) | (simp only [Fact, Bool.not_eq_true', Bool.not_eq_false', decide_eq_true_eq, decide_eq_false_iff_not] at *; refine leK_dd ?_; (simp [-List.getD_eq_getElem?_getD, LeS, LeL, lk, *]; done)) | (show (_ : Nat) ≤ _; omega)) <;> (try simp (disch := omega) only [*, ↓Ed, Eu, ↓reduceIte, reduceCtorEq, Nat.reduceAdd, Nat.reduceEqDiff, Nat.reduceLT, Nat.reduceLeDiff, Int.reduceToNat, Int.reduceEq, Int.reduceLT, Int.reduceLE, w64, List.length_append, List.length_map, Nat.mul_one, beq_self_eq_true, HdC.cs, gdH, hds_len, rt_len, rt_take, rt_so, rt_sp2, zeros_rt, eqC_rt, hd_dec, Int.reduceAdd, hd0_h, hd0_t, Option.isSome_some, Option.isSome_none]))
      all_goals exact Round_lit (j + 1, K') ⟨Le_lit (by simp [LeL, lk, *]), ⟨by simp; omega, hG⟩, by simp; omega⟩
    · have f6 : Fact (decide ((j : Int) < l'.length) = false) := by simp only [Fact, Bool.not_eq_true', Bool.not_eq_false', decide_eq_true_eq, decide_eq_false_iff_not]; omega
      have hT2 := fun c m h1 h2 => t_States c m h1 h2 K2 jK.bd0 jK.ap (by omega)
      have hL2 := fun c m h1 h2 => t_Last c m h1 h2 K2
      have hs2 := srt_len K2
      have hH := fun Q : List HdC => fun h : Q.length ≤ 1000 => p_Headers Q Q (.sl none 34 (hds Q)) (.sl none 34 (hds Q)) rfl rfl h h
      simp only [decide_true] at hH
      have hH1 := hH (srt K) (by omega)
      have hH2 := hH (srt K2) (by omega)
      clear hsl hC gK gK2 gK20 hs2 hH
      simp (disch := omega) only [hcm, hmc, hcm1, hmc1, hc, hm, hd, hdm, hddm, hdmd, ↓Ed, Eu, ↓reduceIte, reduceCtorEq, Nat.reduceAdd, Nat.reduceEqDiff, Nat.reduceLT, Nat.reduceLeDiff, Int.reduceToNat, Int.reduceEq, Int.reduceLT, Int.reduceLE, w64, List.length_append, List.length_map, Nat.mul_one, beq_self_eq_true, HdC.cs, gdH, hds_len, rt_len, rt_take, rt_so, rt_sp2, zeros_rt, eqC_rt, hd_dec, Int.reduceAdd, hd0_h, hd0_t, Option.isSome_some, Option.isSome_none]
      repeat' ((first | (refine' CallO_det (hT) (lk_sub2 ?_ ?_) ?_; rotate_right 3; (focus ((repeat (first | exact lk_hd _ _ _ | (refine lk_tl ?_ ?_; (focus (first | assumption | (simp only [*, not_false_eq_true]; done)))))); done)); (focus ((repeat (first | exact lk_hd _ _ _ | (refine lk_tl ?_ ?_; (focus (first | assumption | (simp only [*, not_false_eq_true]; done)))))); done))) | refine CallO_pure (hH1) ?_ | (refine' CallO_det (hT2 _ _ (by assumption) (by assumption)) (lk_sub2 ?_ ?_) ?_; rotate_right 3; (focus ((repeat (first | exact lk_hd _ _ _ | (refine lk_tl ?_ ?_; (focus (first | assumption | (simp only [*, not_false_eq_true]; done)))))); done)); (focus ((repeat (first | exact lk_hd _ _ _ | (refine lk_tl ?_ ?_; (focus (first | assumption | (simp only [*, not_false_eq_true]; done)))))); done))) | (refine' CallO_det (hL2 _ _ (by assumption) (by assumption)) (lk_sub2 ?_ ?_) ?_; rotate_right 3; (focus ((repeat (first | exact lk_hd _ _ _ | (refine lk_tl ?_ ?_; (focus (first | assumption | (simp only [*, not_false_eq_true]; done)))))); done)); (focus ((repeat (first | exact lk_hd _ _ _ | (refine lk_tl ?_ ?_; (focus (first | assumption | (simp only [*, not_false_eq_true]; done)))))); done))) | refine CallO_pure (hH2) ?_ | refine NewB_intro0 (fun b => ?_) | (refine NewB_intro (fun b hb => ?_); simp only [ln_cons2, ln_nil, and_true] at hb) | (with_reducible apply And.intro; (focus (first | omega | (simp only [Fact, Bool.not_eq_true', Bool.not_eq_false', decide_eq_true_eq, decide_eq_false_iff_not] at *; omega)))) | ((first | refine gW_sp ?_ | refine condW_sp ?_ | refine pickW_sp ?_); (try refine Sp_n ?_); (first | refine Sp_t (by assumption) ?_ | refine Sp_f (by assumption) ?_ | refine Sp_split (fun h => ?_) (fun h => ?_)) <;> (first | have h' := Fact_lt h | have h' := Fact_nlt h | have h' := Fact_le h | have h' := Fact_nle h | skip) <;> (try (exfalso; omega))) | refine TreeW_intro (by rfl) ?_ | refine TreeW_all ?_ | refine upQ_intro ?_ | refine Two_intro ?_ ?_ | (refine leK_lit ?_; (simp [-List.getD_eq_getElem?_getD, LeL, lk, *]; done)) | (refine leK_dd ?_; (simp [-List.getD_eq_getElem?_getD, LeS, LeL, lk, *]; done)) | (simp only [Fact, Bool.not_eq_true', Bool.not_eq_false', decide_eq_true_eq, decide_eq_false_iff_not] at *; refine leK_dd ?_; (simp [-List.getD_eq_getElem?_getD, LeS, LeL, lk, *]; done)) | (show (_ : Nat) ≤ _; omega)) <;> (try simp (disch := omega) only [*, ↓Ed, Eu, ↓reduceIte, reduceCtorEq, Nat.reduceAdd, Nat.reduceEqDiff, Nat.reduceLT, Nat.reduceLeDiff, Int.reduceToNat, Int.reduceEq, Int.reduceLT, Int.reduceLE, w64, List.length_append, List.length_map, Nat.mul_one, beq_self_eq_true, HdC.cs, gdH, hds_len, rt_len, rt_take, rt_so, rt_sp2, zeros_rt, eqC_rt, hd_dec, Int.reduceAdd, hd0_h, hd0_t, Option.isSome_some, Option.isSome_none]))
end Go.Proofs.Ytlefegihikpilaa
