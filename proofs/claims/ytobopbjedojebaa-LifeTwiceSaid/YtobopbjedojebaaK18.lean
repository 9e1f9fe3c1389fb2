import Derived.Test.YtobopbjedojebaaK16
/- life: Fold -/
namespace Go.Proofs.Ytobopbjedojebaa
set_option linter.all false
open Go.RowKit
set_option maxRecDepth 100000
theorem fold_no {t : Tb} {e : EvC} (h : mayE e = false) : foldT t e = (t, 1) := by unfold foldT; rw [if_pos h]
theorem fold_up {t : Tb} {e : EvC} (h : mayE e = true) (hk : e.k = 7) : foldT t e = (t, 0) := by unfold foldT; rw [if_neg (by rw [h]; simp), if_pos hk]
theorem fold_cl {t : Tb} {e : EvC} (h : mayE e = true) (hk : e.k = 6) : foldT t e = (if ((e.e, e.ec) : EndP) ∈ t.C then t else ⟨t.K, t.C ++ [(e.e, e.ec)]⟩, if ((e.e, e.ec) : EndP) ∈ t.C then 8 else 0) := by
  unfold foldT; rw [if_neg (by rw [h]; simp), if_neg (by omega), if_pos hk]
  by_cases hc : ((e.e, e.ec) : EndP) ∈ t.C
  · rw [if_pos hc, if_pos hc, if_pos hc]
  · rw [if_neg hc, if_neg hc, if_neg hc]
theorem fold_new {t : Tb} {e : EvC} (h : mayE e = true) (hk : 1 ≤ e.k ∧ e.k ≤ 5) (hf : findE t.K (keyE e) = none) : foldT t e = (⟨t.K ++ [(keyE e, markE (ent0 e.p) e)], t.C⟩, 0) := by
  unfold foldT; rw [if_neg (by rw [h]; simp), if_neg (by omega), if_neg (by omega), hf]
theorem fold_some {t : Tb} {e : EvC} {x : EntC} (h : mayE e = true) (hk : 1 ≤ e.k ∧ e.k ≤ 5) (hf : findE t.K (keyE e) = some x) : foldT t e = if ¬ x.p = e.p then (t, 3) else if marked x e.k then (t, 8) else if lateE x e.k then (t, 16) else (⟨setE t.K (keyE e) (markE x e), t.C⟩, 0) := by
  unfold foldT; rw [if_neg (by rw [h]; simp), if_neg (by omega), if_neg (by omega), hf]
theorem setE_tk (l : List (KeyC × EntC)) (k : KeyC) (y : EntC) : tk (setE l k y) = tk l := by
  simp only [tk, setE, List.map_map]
  congr 1
  funext x
  simp only [Function.comp]
  split <;> simp_all
theorem setE_tv {l : List (KeyC × EntC)} {k : KeyC} {x y : EntC} {i : Nat} (hi : l[i]? = some (k, x)) (hn : (l.map (·.1)).Nodup) : (tv l).set i (entA y) = tv (setE l k y) := by
  apply List.ext_getElem?
  intro j
  rw [List.getElem?_set]
  obtain ⟨hil, hix⟩ := List.getElem?_eq_some_iff.1 hi
  split
  · rename_i e; subst e
    simp [tv, setE, hil, hix]
  · rename_i hij
    simp only [tv, setE, List.getElem?_map, Option.map_map]
    cases hj : l[j]? with
    | none => rfl
    | some z =>
      simp only [Option.map_some, Function.comp, Option.some.injEq]
      split
      · rename_i hz
        exfalso
        obtain ⟨hjl, hjz⟩ := List.getElem?_eq_some_iff.1 hj
        have h1 : (l.map (·.1))[i]'(by simpa using hil) = (l.map (·.1))[j]'(by simpa using hjl) := by simp [hix, hjz, hz]
        exact hij ((List.getElem_inj hn).1 h1)
      · rfl
theorem setE_len (l : List (KeyC × EntC)) (k : KeyC) (y : EntC) : (setE l k y).length = l.length := by simp [setE]
set_option maxHeartbeats 8000000 in
theorem t_Fold (c m n : Nat) (hh : (¬ c = m ∧ ¬ m = c) ∧ (¬ c = n ∧ ¬ n = c) ∧ ¬ m = n ∧ ¬ n = m) (t : Tb) (e : EvC) (hN : (t.K.map (·.1)).Nodup) (h1 : e.p.s.length ≤ 1000000) (h2 : e.p.d.length ≤ 1000000) (h3 : e.p.x.length ≤ 1000000) (h4 : e.e.length ≤ 1000000) (h5 : e.a.length ≤ 1000000) :
    CT Try.prog 12 [.ptr c 0, .agg e.cs] (lk (tabO c m n t)) (fun r o => r = .int .i64 (foldT t e).2 ∧ o = lk (tabO c m n (foldT t e).1)) := by
  have hO := p_eOwn e h1 h2 h3 h4 h5
  have hM := p_eMay e h1 h2 h3 h4 h5
  refine okt_life_Table_Fold _ _ _ (by simp) ?_
  by_cases hm : mayE e = true
  rotate_left
  · have hm' : mayE e = false := by simpa using hm
    rw [own_no hm'] at hO
    rw [fold_no hm']
    rw [hm'] at hM
    clear hm hm' hN
    simp only [c_life_Table_Fold, hh, ↓Ed, Eu, ↓reduceIte, reduceCtorEq, Nat.reduceAdd, Nat.reduceEqDiff, Nat.reduceLT, Nat.reduceLeDiff, Int.reduceToNat, Int.reduceEq, Int.reduceLT, Int.reduceLE, w64, List.length_append, List.length_map, Nat.mul_one, beq_self_eq_true, PktC.cs, EvC.cs, EntC.cs, KeyC.cs, st_nil, Int.reduceAdd]
    repeat' ((first | refine CallO_pure (hM) ?_ | refine CallO_pure (hO) ?_ | refine NewB_intro0 (fun b => ?_) | (refine NewB_intro (fun b hb => ?_); simp only [ln_cons2, ln_nil, and_true] at hb) | (with_reducible apply wA; focus exact OM_a) | ((first | refine gW_sp ?_ | refine condW_sp ?_ | refine pickW_sp ?_); (try refine Sp_n ?_); (first | refine wT ?_ | refine wF ?_ | refine wL (fun h h' => ?_) (fun h h' => ?_) | refine wE (fun h h' => ?_) (fun h h' => ?_) | refine Sp_split (fun h => ?_) (fun h => ?_)) <;> (try (exfalso; omega))) | refine TreeW_intro (by rfl) ?_ | refine TreeW_all ?_ | refine upQ_intro ?_ | refine Two_intro ?_ ?_ | exact wK | exact wD | (simp only [Fact, Bool.not_eq_true', Bool.not_eq_false', decide_eq_true_eq, decide_eq_false_iff_not] at *; exact wD) | (show (_ : Nat) ≤ _; omega)) <;> (try simp (disch := omega) only [*, ↓Ed, Eu, ↓reduceIte, reduceCtorEq, Nat.reduceAdd, Nat.reduceEqDiff, Nat.reduceLT, Nat.reduceLeDiff, Int.reduceToNat, Int.reduceEq, Int.reduceLT, Int.reduceLE, w64, List.length_append, List.length_map, Nat.mul_one, beq_self_eq_true, PktC.cs, EvC.cs, EntC.cs, KeyC.cs, st_nil, Int.reduceAdd]))
    all_goals exact ro_mk (by simp [LeL, lk, hh, resR, arR]) dom3
  have hr := may_range hm
  rcases kfacts e.k with ⟨k1, k2, k3, k4, k5, k6, k7, k8, k9, k10, k11, k12⟩ | ⟨k1, k2, k3, k4, k5, k6, k7, k8, k9, k10, k11, k12⟩ | ⟨k1, k2, k3, k4, k5, k6, k7, k8, k9, k10, k11, k12⟩ | ⟨k1, k2, k3, k4, k5, k6, k7, k8, k9, k10, k11, k12⟩ | ⟨k1, k2, k3, k4, k5, k6, k7, k8, k9, k10, k11, k12⟩ | ⟨k1, k2, k3, k4, k5, k6, k7, k8, k9, k10, k11, k12⟩ | ⟨k1, k2, k3, k4, k5, k6, k7, k8, k9, k10, k11, k12⟩ | ⟨k1, k2, k3, k4, k5, k6, k7, k8, k9, k10, k11, k12⟩ | ⟨k1, k2, k3, k4, k5, k6, k7, k8, k9, k10, k11, k12⟩
  · have hk : e.k = 1 := k12
    have hkk : 1 ≤ e.k ∧ e.k ≤ 5 := by omega
    have hMk := fun b => p_mark b e.k
    have hOut := p_outK e.k
    have hSm := fun a b => p_Same a b
    rw [show outK e.k = true by rw [hk]; rfl] at hOut
    have hmo : ∀ b, AV.ptr b (markO e.k) = .ptr b 9 := fun b => by rw [hk]; rfl
    simp only [hmo] at hMk
    have hokk : (ownE e).2.2.2 = true := by
      first | rw [own_src hm (by omega)] | rw [own_dst hm (by omega)]
    rw [hokk] at hO
    have hmk : ∀ x, markE x e = { x with s := true } := fun x => by simp [markE, hk]
    have hke : keyE e = ⟨(ownE e).1, (ownE e).2.1, true, (ownE e).2.2.1⟩ := by unfold keyE; rw [show outK e.k = true by rw [hk]; rfl]
    cases hf0 : findE t.K (keyE e) with
    | none =>
      have hf := lookK_none hf0
      rw [fold_new hm hkk hf0, hmk]
      rw [hke] at hf ⊢
      rw [hm] at hM
      have hSe := p_Same e.p e.p
      rw [decide_eq_true rfl] at hSe
      simp only [keyA] at hf
      clear hm hr k12 hN hf0 hke hmk hmo hokk hk hkk hSm
      generalize ownE e = OW at *
      simp only [c_life_Table_Fold, hh, ↓Ed, Eu, ↓reduceIte, reduceCtorEq, Nat.reduceAdd, Nat.reduceEqDiff, Nat.reduceLT, Nat.reduceLeDiff, Int.reduceToNat, Int.reduceEq, Int.reduceLT, Int.reduceLE, w64, List.length_append, List.length_map, Nat.mul_one, beq_self_eq_true, PktC.cs, EvC.cs, EntC.cs, KeyC.cs, st_nil, Int.reduceAdd]
      repeat' ((first | refine CallO_pure (hM) ?_ | refine CallO_pure (hO) ?_ | refine CallW_intro (hOut) ?_ | refine CallO_pure (hMk _) ?_ | refine CallO_pure (hSe) ?_ | refine NewB_intro0 (fun b => ?_) | (refine NewB_intro (fun b hb => ?_); simp only [ln_cons2, ln_nil, and_true] at hb) | (with_reducible apply wA; focus exact OM_a) | ((first | refine gW_sp ?_ | refine condW_sp ?_ | refine pickW_sp ?_); (try refine Sp_n ?_); (first | refine wT ?_ | refine wF ?_ | refine wL (fun h h' => ?_) (fun h h' => ?_) | refine wE (fun h h' => ?_) (fun h h' => ?_) | refine Sp_split (fun h => ?_) (fun h => ?_)) <;> (try (exfalso; omega))) | refine TreeW_intro (by rfl) ?_ | refine TreeW_all ?_ | refine upQ_intro ?_ | refine Two_intro ?_ ?_ | exact wK | exact wD | (simp only [Fact, Bool.not_eq_true', Bool.not_eq_false', decide_eq_true_eq, decide_eq_false_iff_not] at *; exact wD) | (show (_ : Nat) ≤ _; omega)) <;> (try simp (disch := omega) only [*, ↓Ed, Eu, ↓reduceIte, reduceCtorEq, Nat.reduceAdd, Nat.reduceEqDiff, Nat.reduceLT, Nat.reduceLeDiff, Int.reduceToNat, Int.reduceEq, Int.reduceLT, Int.reduceLE, w64, List.length_append, List.length_map, Nat.mul_one, beq_self_eq_true, PktC.cs, EvC.cs, EntC.cs, KeyC.cs, st_nil, Int.reduceAdd]))
      all_goals exact ro_mk (by simp [LeL, lk, hh, resR, arR, mpK, tk, tv, ent0, List.range_succ]) dom3
    | some x =>
      obtain ⟨i, hi, hf, hg, hix⟩ := lookK_some hf0
      rw [fold_some hm hkk hf0, hmk]
      have hset := fun y => setE_tv (y := y) hix hN
      rw [hke] at hf hset ⊢
      rw [hm] at hM
      have hSe := p_Same x.p e.p
      simp only [keyA] at hf
      have hmx : marked x e.k = x.s := by simp [marked, hk]
      have hla : lateE x e.k = false := by simp [lateE, hk]
      rw [hmx, hla]
      clear hm hr k12 hN hf0 hke hmk hmo hokk hk hkk hSm hix hmx hla
      generalize ownE e = OW at *
      by_cases hp : x.p = e.p
      rotate_left
      · rw [decide_eq_false hp] at hSe
        rw [if_pos hp]
        clear hp hset
        simp only [c_life_Table_Fold, hh, ↓Ed, Eu, ↓reduceIte, reduceCtorEq, Nat.reduceAdd, Nat.reduceEqDiff, Nat.reduceLT, Nat.reduceLeDiff, Int.reduceToNat, Int.reduceEq, Int.reduceLT, Int.reduceLE, w64, List.length_append, List.length_map, Nat.mul_one, beq_self_eq_true, PktC.cs, EvC.cs, EntC.cs, KeyC.cs, st_nil, Int.reduceAdd]
        repeat' ((first | refine CallO_pure (hM) ?_ | refine CallO_pure (hO) ?_ | refine CallW_intro (hOut) ?_ | refine CallO_pure (hMk _) ?_ | refine CallO_pure (hSe) ?_ | refine NewB_intro0 (fun b => ?_) | (refine NewB_intro (fun b hb => ?_); simp only [ln_cons2, ln_nil, and_true] at hb) | (with_reducible apply wA; focus exact OM_a) | ((first | refine gW_sp ?_ | refine condW_sp ?_ | refine pickW_sp ?_); (try refine Sp_n ?_); (first | refine wT ?_ | refine wF ?_ | refine wL (fun h h' => ?_) (fun h h' => ?_) | refine wE (fun h h' => ?_) (fun h h' => ?_) | refine Sp_split (fun h => ?_) (fun h => ?_)) <;> (try (exfalso; omega))) | refine TreeW_intro (by rfl) ?_ | refine TreeW_all ?_ | refine upQ_intro ?_ | refine Two_intro ?_ ?_ | exact wK | exact wD | (simp only [Fact, Bool.not_eq_true', Bool.not_eq_false', decide_eq_true_eq, decide_eq_false_iff_not] at *; exact wD) | (show (_ : Nat) ≤ _; omega)) <;> (try simp (disch := omega) only [*, ↓Ed, Eu, ↓reduceIte, reduceCtorEq, Nat.reduceAdd, Nat.reduceEqDiff, Nat.reduceLT, Nat.reduceLeDiff, Int.reduceToNat, Int.reduceEq, Int.reduceLT, Int.reduceLE, w64, List.length_append, List.length_map, Nat.mul_one, beq_self_eq_true, PktC.cs, EvC.cs, EntC.cs, KeyC.cs, st_nil, Int.reduceAdd]))
        all_goals exact ro_mk (by simp [LeL, lk, hh, resR, arR]) dom3
      · rw [decide_eq_true hp] at hSe
        rw [if_neg (fun h => h hp)]
        clear hp
        cases hb1 : x.s with
        | true =>
          clear hset
          simp only [c_life_Table_Fold, hh, if_true, ↓Ed, Eu, ↓reduceIte, reduceCtorEq, Nat.reduceAdd, Nat.reduceEqDiff, Nat.reduceLT, Nat.reduceLeDiff, Int.reduceToNat, Int.reduceEq, Int.reduceLT, Int.reduceLE, w64, List.length_append, List.length_map, Nat.mul_one, beq_self_eq_true, PktC.cs, EvC.cs, EntC.cs, KeyC.cs, st_nil, Int.reduceAdd]
          repeat' ((first | refine CallO_pure (hM) ?_ | refine CallO_pure (hO) ?_ | refine CallW_intro (hOut) ?_ | refine CallO_pure (hMk _) ?_ | refine CallO_pure (hSe) ?_ | refine NewB_intro0 (fun b => ?_) | (refine NewB_intro (fun b hb => ?_); simp only [ln_cons2, ln_nil, and_true] at hb) | (with_reducible apply wA; focus exact OM_a) | ((first | refine gW_sp ?_ | refine condW_sp ?_ | refine pickW_sp ?_); (try refine Sp_n ?_); (first | refine wT ?_ | refine wF ?_ | refine wL (fun h h' => ?_) (fun h h' => ?_) | refine wE (fun h h' => ?_) (fun h h' => ?_) | refine Sp_split (fun h => ?_) (fun h => ?_)) <;> (try (exfalso; omega))) | refine TreeW_intro (by rfl) ?_ | refine TreeW_all ?_ | refine upQ_intro ?_ | refine Two_intro ?_ ?_ | exact wK | exact wD | (simp only [Fact, Bool.not_eq_true', Bool.not_eq_false', decide_eq_true_eq, decide_eq_false_iff_not] at *; exact wD) | (show (_ : Nat) ≤ _; omega)) <;> (try simp (disch := omega) only [*, ↓Ed, Eu, ↓reduceIte, reduceCtorEq, Nat.reduceAdd, Nat.reduceEqDiff, Nat.reduceLT, Nat.reduceLeDiff, Int.reduceToNat, Int.reduceEq, Int.reduceLT, Int.reduceLE, w64, List.length_append, List.length_map, Nat.mul_one, beq_self_eq_true, PktC.cs, EvC.cs, EntC.cs, KeyC.cs, st_nil, Int.reduceAdd]))
          all_goals exact ro_mk (by simp [LeL, lk, hh, resR, arR]) dom3
        | false =>
          simp only [c_life_Table_Fold, hh, Bool.false_eq_true, if_false, ↓Ed, Eu, ↓reduceIte, reduceCtorEq, Nat.reduceAdd, Nat.reduceEqDiff, Nat.reduceLT, Nat.reduceLeDiff, Int.reduceToNat, Int.reduceEq, Int.reduceLT, Int.reduceLE, w64, List.length_append, List.length_map, Nat.mul_one, beq_self_eq_true, PktC.cs, EvC.cs, EntC.cs, KeyC.cs, st_nil, Int.reduceAdd]
          repeat' ((first | refine CallO_pure (hM) ?_ | refine CallO_pure (hO) ?_ | refine CallW_intro (hOut) ?_ | refine CallO_pure (hMk _) ?_ | refine CallO_pure (hSe) ?_ | refine NewB_intro0 (fun b => ?_) | (refine NewB_intro (fun b hb => ?_); simp only [ln_cons2, ln_nil, and_true] at hb) | (with_reducible apply wA; focus exact OM_a) | ((first | refine gW_sp ?_ | refine condW_sp ?_ | refine pickW_sp ?_); (try refine Sp_n ?_); (first | refine wT ?_ | refine wF ?_ | refine wL (fun h h' => ?_) (fun h h' => ?_) | refine wE (fun h h' => ?_) (fun h h' => ?_) | refine Sp_split (fun h => ?_) (fun h => ?_)) <;> (try (exfalso; omega))) | refine TreeW_intro (by rfl) ?_ | refine TreeW_all ?_ | refine upQ_intro ?_ | refine Two_intro ?_ ?_ | exact wK | exact wD | (simp only [Fact, Bool.not_eq_true', Bool.not_eq_false', decide_eq_true_eq, decide_eq_false_iff_not] at *; exact wD) | (show (_ : Nat) ≤ _; omega)) <;> (try simp (disch := omega) only [*, ↓Ed, Eu, ↓reduceIte, reduceCtorEq, Nat.reduceAdd, Nat.reduceEqDiff, Nat.reduceLT, Nat.reduceLeDiff, Int.reduceToNat, Int.reduceEq, Int.reduceLT, Int.reduceLE, w64, List.length_append, List.length_map, Nat.mul_one, beq_self_eq_true, PktC.cs, EvC.cs, EntC.cs, KeyC.cs, st_nil, Int.reduceAdd]))
          all_goals exact ro_mk (by simp [LeL, lk, hh, resR, arR, mpK, setE_tk, setE_len, ← hset, entA, EntC.cs, hb1]) dom3
  · have hk : e.k = 2 := k12
    have hkk : 1 ≤ e.k ∧ e.k ≤ 5 := by omega
    have hMk := fun b => p_mark b e.k
    have hOut := p_outK e.k
    have hSm := fun a b => p_Same a b
    rw [show outK e.k = false by rw [hk]; rfl] at hOut
    have hmo : ∀ b, AV.ptr b (markO e.k) = .ptr b 10 := fun b => by rw [hk]; rfl
    simp only [hmo] at hMk
    have hokk : (ownE e).2.2.2 = true := by
      first | rw [own_src hm (by omega)] | rw [own_dst hm (by omega)]
    rw [hokk] at hO
    have hmk : ∀ x, markE x e = { x with r := true } := fun x => by simp [markE, hk]
    have hke : keyE e = ⟨(ownE e).1, (ownE e).2.1, false, (ownE e).2.2.1⟩ := by unfold keyE; rw [show outK e.k = false by rw [hk]; rfl]
    cases hf0 : findE t.K (keyE e) with
    | none =>
      have hf := lookK_none hf0
      rw [fold_new hm hkk hf0, hmk]
      rw [hke] at hf ⊢
      rw [hm] at hM
      have hSe := p_Same e.p e.p
      rw [decide_eq_true rfl] at hSe
      simp only [keyA] at hf
      clear hm hr k12 hN hf0 hke hmk hmo hokk hk hkk hSm
      generalize ownE e = OW at *
      simp only [c_life_Table_Fold, hh, ↓Ed, Eu, ↓reduceIte, reduceCtorEq, Nat.reduceAdd, Nat.reduceEqDiff, Nat.reduceLT, Nat.reduceLeDiff, Int.reduceToNat, Int.reduceEq, Int.reduceLT, Int.reduceLE, w64, List.length_append, List.length_map, Nat.mul_one, beq_self_eq_true, PktC.cs, EvC.cs, EntC.cs, KeyC.cs, st_nil, Int.reduceAdd]
      repeat' ((first | refine CallO_pure (hM) ?_ | refine CallO_pure (hO) ?_ | refine CallW_intro (hOut) ?_ | refine CallO_pure (hMk _) ?_ | refine CallO_pure (hSe) ?_ | refine NewB_intro0 (fun b => ?_) | (refine NewB_intro (fun b hb => ?_); simp only [ln_cons2, ln_nil, and_true] at hb) | (with_reducible apply wA; focus exact OM_a) | ((first | refine gW_sp ?_ | refine condW_sp ?_ | refine pickW_sp ?_); (try refine Sp_n ?_); (first | refine wT ?_ | refine wF ?_ | refine wL (fun h h' => ?_) (fun h h' => ?_) | refine wE (fun h h' => ?_) (fun h h' => ?_) | refine Sp_split (fun h => ?_) (fun h => ?_)) <;> (try (exfalso; omega))) | refine TreeW_intro (by rfl) ?_ | refine TreeW_all ?_ | refine upQ_intro ?_ | refine Two_intro ?_ ?_ | exact wK | exact wD | (simp only [Fact, Bool.not_eq_true', Bool.not_eq_false', decide_eq_true_eq, decide_eq_false_iff_not] at *; exact wD) | (show (_ : Nat) ≤ _; omega)) <;> (try simp (disch := omega) only [*, ↓Ed, Eu, ↓reduceIte, reduceCtorEq, Nat.reduceAdd, Nat.reduceEqDiff, Nat.reduceLT, Nat.reduceLeDiff, Int.reduceToNat, Int.reduceEq, Int.reduceLT, Int.reduceLE, w64, List.length_append, List.length_map, Nat.mul_one, beq_self_eq_true, PktC.cs, EvC.cs, EntC.cs, KeyC.cs, st_nil, Int.reduceAdd]))
      all_goals exact ro_mk (by simp [LeL, lk, hh, resR, arR, mpK, tk, tv, ent0, List.range_succ]) dom3
    | some x =>
      obtain ⟨i, hi, hf, hg, hix⟩ := lookK_some hf0
      rw [fold_some hm hkk hf0, hmk]
      have hset := fun y => setE_tv (y := y) hix hN
      rw [hke] at hf hset ⊢
      rw [hm] at hM
      have hSe := p_Same x.p e.p
      simp only [keyA] at hf
      have hmx : marked x e.k = x.r := by simp [marked, hk]
      have hla : lateE x e.k = false := by simp [lateE, hk]
      rw [hmx, hla]
      clear hm hr k12 hN hf0 hke hmk hmo hokk hk hkk hSm hix hmx hla
      generalize ownE e = OW at *
      by_cases hp : x.p = e.p
      rotate_left
      · rw [decide_eq_false hp] at hSe
        rw [if_pos hp]
        clear hp hset
        simp only [c_life_Table_Fold, hh, ↓Ed, Eu, ↓reduceIte, reduceCtorEq, Nat.reduceAdd, Nat.reduceEqDiff, Nat.reduceLT, Nat.reduceLeDiff, Int.reduceToNat, Int.reduceEq, Int.reduceLT, Int.reduceLE, w64, List.length_append, List.length_map, Nat.mul_one, beq_self_eq_true, PktC.cs, EvC.cs, EntC.cs, KeyC.cs, st_nil, Int.reduceAdd]
        repeat' ((first | refine CallO_pure (hM) ?_ | refine CallO_pure (hO) ?_ | refine CallW_intro (hOut) ?_ | refine CallO_pure (hMk _) ?_ | refine CallO_pure (hSe) ?_ | refine NewB_intro0 (fun b => ?_) | (refine NewB_intro (fun b hb => ?_); simp only [ln_cons2, ln_nil, and_true] at hb) | (with_reducible apply wA; focus exact OM_a) | ((first | refine gW_sp ?_ | refine condW_sp ?_ | refine pickW_sp ?_); (try refine Sp_n ?_); (first | refine wT ?_ | refine wF ?_ | refine wL (fun h h' => ?_) (fun h h' => ?_) | refine wE (fun h h' => ?_) (fun h h' => ?_) | refine Sp_split (fun h => ?_) (fun h => ?_)) <;> (try (exfalso; omega))) | refine TreeW_intro (by rfl) ?_ | refine TreeW_all ?_ | refine upQ_intro ?_ | refine Two_intro ?_ ?_ | exact wK | exact wD | (simp only [Fact, Bool.not_eq_true', Bool.not_eq_false', decide_eq_true_eq, decide_eq_false_iff_not] at *; exact wD) | (show (_ : Nat) ≤ _; omega)) <;> (try simp (disch := omega) only [*, ↓Ed, Eu, ↓reduceIte, reduceCtorEq, Nat.reduceAdd, Nat.reduceEqDiff, Nat.reduceLT, Nat.reduceLeDiff, Int.reduceToNat, Int.reduceEq, Int.reduceLT, Int.reduceLE, w64, List.length_append, List.length_map, Nat.mul_one, beq_self_eq_true, PktC.cs, EvC.cs, EntC.cs, KeyC.cs, st_nil, Int.reduceAdd]))
        all_goals exact ro_mk (by simp [LeL, lk, hh, resR, arR]) dom3
      · rw [decide_eq_true hp] at hSe
        rw [if_neg (fun h => h hp)]
        clear hp
        cases hb1 : x.r with
        | true =>
          clear hset
          simp only [c_life_Table_Fold, hh, if_true, ↓Ed, Eu, ↓reduceIte, reduceCtorEq, Nat.reduceAdd, Nat.reduceEqDiff, Nat.reduceLT, Nat.reduceLeDiff, Int.reduceToNat, Int.reduceEq, Int.reduceLT, Int.reduceLE, w64, List.length_append, List.length_map, Nat.mul_one, beq_self_eq_true, PktC.cs, EvC.cs, EntC.cs, KeyC.cs, st_nil, Int.reduceAdd]
          repeat' ((first | refine CallO_pure (hM) ?_ | refine CallO_pure (hO) ?_ | refine CallW_intro (hOut) ?_ | refine CallO_pure (hMk _) ?_ | refine CallO_pure (hSe) ?_ | refine NewB_intro0 (fun b => ?_) | (refine NewB_intro (fun b hb => ?_); simp only [ln_cons2, ln_nil, and_true] at hb) | (with_reducible apply wA; focus exact OM_a) | ((first | refine gW_sp ?_ | refine condW_sp ?_ | refine pickW_sp ?_); (try refine Sp_n ?_); (first | refine wT ?_ | refine wF ?_ | refine wL (fun h h' => ?_) (fun h h' => ?_) | refine wE (fun h h' => ?_) (fun h h' => ?_) | refine Sp_split (fun h => ?_) (fun h => ?_)) <;> (try (exfalso; omega))) | refine TreeW_intro (by rfl) ?_ | refine TreeW_all ?_ | refine upQ_intro ?_ | refine Two_intro ?_ ?_ | exact wK | exact wD | (simp only [Fact, Bool.not_eq_true', Bool.not_eq_false', decide_eq_true_eq, decide_eq_false_iff_not] at *; exact wD) | (show (_ : Nat) ≤ _; omega)) <;> (try simp (disch := omega) only [*, ↓Ed, Eu, ↓reduceIte, reduceCtorEq, Nat.reduceAdd, Nat.reduceEqDiff, Nat.reduceLT, Nat.reduceLeDiff, Int.reduceToNat, Int.reduceEq, Int.reduceLT, Int.reduceLE, w64, List.length_append, List.length_map, Nat.mul_one, beq_self_eq_true, PktC.cs, EvC.cs, EntC.cs, KeyC.cs, st_nil, Int.reduceAdd]))
          all_goals exact ro_mk (by simp [LeL, lk, hh, resR, arR]) dom3
        | false =>
          simp only [c_life_Table_Fold, hh, Bool.false_eq_true, if_false, ↓Ed, Eu, ↓reduceIte, reduceCtorEq, Nat.reduceAdd, Nat.reduceEqDiff, Nat.reduceLT, Nat.reduceLeDiff, Int.reduceToNat, Int.reduceEq, Int.reduceLT, Int.reduceLE, w64, List.length_append, List.length_map, Nat.mul_one, beq_self_eq_true, PktC.cs, EvC.cs, EntC.cs, KeyC.cs, st_nil, Int.reduceAdd]
          repeat' ((first | refine CallO_pure (hM) ?_ | refine CallO_pure (hO) ?_ | refine CallW_intro (hOut) ?_ | refine CallO_pure (hMk _) ?_ | refine CallO_pure (hSe) ?_ | refine NewB_intro0 (fun b => ?_) | (refine NewB_intro (fun b hb => ?_); simp only [ln_cons2, ln_nil, and_true] at hb) | (with_reducible apply wA; focus exact OM_a) | ((first | refine gW_sp ?_ | refine condW_sp ?_ | refine pickW_sp ?_); (try refine Sp_n ?_); (first | refine wT ?_ | refine wF ?_ | refine wL (fun h h' => ?_) (fun h h' => ?_) | refine wE (fun h h' => ?_) (fun h h' => ?_) | refine Sp_split (fun h => ?_) (fun h => ?_)) <;> (try (exfalso; omega))) | refine TreeW_intro (by rfl) ?_ | refine TreeW_all ?_ | refine upQ_intro ?_ | refine Two_intro ?_ ?_ | exact wK | exact wD | (simp only [Fact, Bool.not_eq_true', Bool.not_eq_false', decide_eq_true_eq, decide_eq_false_iff_not] at *; exact wD) | (show (_ : Nat) ≤ _; omega)) <;> (try simp (disch := omega) only [*, ↓Ed, Eu, ↓reduceIte, reduceCtorEq, Nat.reduceAdd, Nat.reduceEqDiff, Nat.reduceLT, Nat.reduceLeDiff, Int.reduceToNat, Int.reduceEq, Int.reduceLT, Int.reduceLE, w64, List.length_append, List.length_map, Nat.mul_one, beq_self_eq_true, PktC.cs, EvC.cs, EntC.cs, KeyC.cs, st_nil, Int.reduceAdd]))
          all_goals exact ro_mk (by simp [LeL, lk, hh, resR, arR, mpK, setE_tk, setE_len, ← hset, entA, EntC.cs, hb1]) dom3
  · have hk : e.k = 4 := k12
    have hkk : 1 ≤ e.k ∧ e.k ≤ 5 := by omega
    have hMk := fun b => p_mark b e.k
    have hOut := p_outK e.k
    have hSm := fun a b => p_Same a b
    rw [show outK e.k = true by rw [hk]; rfl] at hOut
    have hmo : ∀ b, AV.ptr b (markO e.k) = .ptr b 12 := fun b => by rw [hk]; rfl
    simp only [hmo] at hMk
    have hokk : (ownE e).2.2.2 = true := by
      first | rw [own_src hm (by omega)] | rw [own_dst hm (by omega)]
    rw [hokk] at hO
    have hmk : ∀ x, markE x e = { x with c := true } := fun x => by simp [markE, hk]
    have hke : keyE e = ⟨(ownE e).1, (ownE e).2.1, true, (ownE e).2.2.1⟩ := by unfold keyE; rw [show outK e.k = true by rw [hk]; rfl]
    cases hf0 : findE t.K (keyE e) with
    | none =>
      have hf := lookK_none hf0
      rw [fold_new hm hkk hf0, hmk]
      rw [hke] at hf ⊢
      rw [hm] at hM
      have hSe := p_Same e.p e.p
      rw [decide_eq_true rfl] at hSe
      simp only [keyA] at hf
      clear hm hr k12 hN hf0 hke hmk hmo hokk hk hkk hSm
      generalize ownE e = OW at *
      simp only [c_life_Table_Fold, hh, ↓Ed, Eu, ↓reduceIte, reduceCtorEq, Nat.reduceAdd, Nat.reduceEqDiff, Nat.reduceLT, Nat.reduceLeDiff, Int.reduceToNat, Int.reduceEq, Int.reduceLT, Int.reduceLE, w64, List.length_append, List.length_map, Nat.mul_one, beq_self_eq_true, PktC.cs, EvC.cs, EntC.cs, KeyC.cs, st_nil, Int.reduceAdd]
      repeat' ((first | refine CallO_pure (hM) ?_ | refine CallO_pure (hO) ?_ | refine CallW_intro (hOut) ?_ | refine CallO_pure (hMk _) ?_ | refine CallO_pure (hSe) ?_ | refine NewB_intro0 (fun b => ?_) | (refine NewB_intro (fun b hb => ?_); simp only [ln_cons2, ln_nil, and_true] at hb) | (with_reducible apply wA; focus exact OM_a) | ((first | refine gW_sp ?_ | refine condW_sp ?_ | refine pickW_sp ?_); (try refine Sp_n ?_); (first | refine wT ?_ | refine wF ?_ | refine wL (fun h h' => ?_) (fun h h' => ?_) | refine wE (fun h h' => ?_) (fun h h' => ?_) | refine Sp_split (fun h => ?_) (fun h => ?_)) <;> (try (exfalso; omega))) | refine TreeW_intro (by rfl) ?_ | refine TreeW_all ?_ | refine upQ_intro ?_ | refine Two_intro ?_ ?_ | exact wK | exact wD | (simp only [Fact, Bool.not_eq_true', Bool.not_eq_false', decide_eq_true_eq, decide_eq_false_iff_not] at *; exact wD) | (show (_ : Nat) ≤ _; omega)) <;> (try simp (disch := omega) only [*, ↓Ed, Eu, ↓reduceIte, reduceCtorEq, Nat.reduceAdd, Nat.reduceEqDiff, Nat.reduceLT, Nat.reduceLeDiff, Int.reduceToNat, Int.reduceEq, Int.reduceLT, Int.reduceLE, w64, List.length_append, List.length_map, Nat.mul_one, beq_self_eq_true, PktC.cs, EvC.cs, EntC.cs, KeyC.cs, st_nil, Int.reduceAdd]))
      all_goals exact ro_mk (by simp [LeL, lk, hh, resR, arR, mpK, tk, tv, ent0, List.range_succ]) dom3
    | some x =>
      obtain ⟨i, hi, hf, hg, hix⟩ := lookK_some hf0
      rw [fold_some hm hkk hf0, hmk]
      have hset := fun y => setE_tv (y := y) hix hN
      rw [hke] at hf hset ⊢
      rw [hm] at hM
      have hSe := p_Same x.p e.p
      simp only [keyA] at hf
      have hmx : marked x e.k = x.c := by simp [marked, hk]
      have hla : lateE x e.k = x.t := by simp [lateE, hk]
      rw [hmx, hla]
      clear hm hr k12 hN hf0 hke hmk hmo hokk hk hkk hSm hix hmx hla
      generalize ownE e = OW at *
      by_cases hp : x.p = e.p
      rotate_left
      · rw [decide_eq_false hp] at hSe
        rw [if_pos hp]
        clear hp hset
        simp only [c_life_Table_Fold, hh, ↓Ed, Eu, ↓reduceIte, reduceCtorEq, Nat.reduceAdd, Nat.reduceEqDiff, Nat.reduceLT, Nat.reduceLeDiff, Int.reduceToNat, Int.reduceEq, Int.reduceLT, Int.reduceLE, w64, List.length_append, List.length_map, Nat.mul_one, beq_self_eq_true, PktC.cs, EvC.cs, EntC.cs, KeyC.cs, st_nil, Int.reduceAdd]
        repeat' ((first | refine CallO_pure (hM) ?_ | refine CallO_pure (hO) ?_ | refine CallW_intro (hOut) ?_ | refine CallO_pure (hMk _) ?_ | refine CallO_pure (hSe) ?_ | refine NewB_intro0 (fun b => ?_) | (refine NewB_intro (fun b hb => ?_); simp only [ln_cons2, ln_nil, and_true] at hb) | (with_reducible apply wA; focus exact OM_a) | ((first | refine gW_sp ?_ | refine condW_sp ?_ | refine pickW_sp ?_); (try refine Sp_n ?_); (first | refine wT ?_ | refine wF ?_ | refine wL (fun h h' => ?_) (fun h h' => ?_) | refine wE (fun h h' => ?_) (fun h h' => ?_) | refine Sp_split (fun h => ?_) (fun h => ?_)) <;> (try (exfalso; omega))) | refine TreeW_intro (by rfl) ?_ | refine TreeW_all ?_ | refine upQ_intro ?_ | refine Two_intro ?_ ?_ | exact wK | exact wD | (simp only [Fact, Bool.not_eq_true', Bool.not_eq_false', decide_eq_true_eq, decide_eq_false_iff_not] at *; exact wD) | (show (_ : Nat) ≤ _; omega)) <;> (try simp (disch := omega) only [*, ↓Ed, Eu, ↓reduceIte, reduceCtorEq, Nat.reduceAdd, Nat.reduceEqDiff, Nat.reduceLT, Nat.reduceLeDiff, Int.reduceToNat, Int.reduceEq, Int.reduceLT, Int.reduceLE, w64, List.length_append, List.length_map, Nat.mul_one, beq_self_eq_true, PktC.cs, EvC.cs, EntC.cs, KeyC.cs, st_nil, Int.reduceAdd]))
        all_goals exact ro_mk (by simp [LeL, lk, hh, resR, arR]) dom3
      · rw [decide_eq_true hp] at hSe
        rw [if_neg (fun h => h hp)]
        clear hp
        cases hb1 : x.c with
        | true =>
          clear hset
          simp only [c_life_Table_Fold, hh, if_true, ↓Ed, Eu, ↓reduceIte, reduceCtorEq, Nat.reduceAdd, Nat.reduceEqDiff, Nat.reduceLT, Nat.reduceLeDiff, Int.reduceToNat, Int.reduceEq, Int.reduceLT, Int.reduceLE, w64, List.length_append, List.length_map, Nat.mul_one, beq_self_eq_true, PktC.cs, EvC.cs, EntC.cs, KeyC.cs, st_nil, Int.reduceAdd]
          repeat' ((first | refine CallO_pure (hM) ?_ | refine CallO_pure (hO) ?_ | refine CallW_intro (hOut) ?_ | refine CallO_pure (hMk _) ?_ | refine CallO_pure (hSe) ?_ | refine NewB_intro0 (fun b => ?_) | (refine NewB_intro (fun b hb => ?_); simp only [ln_cons2, ln_nil, and_true] at hb) | (with_reducible apply wA; focus exact OM_a) | ((first | refine gW_sp ?_ | refine condW_sp ?_ | refine pickW_sp ?_); (try refine Sp_n ?_); (first | refine wT ?_ | refine wF ?_ | refine wL (fun h h' => ?_) (fun h h' => ?_) | refine wE (fun h h' => ?_) (fun h h' => ?_) | refine Sp_split (fun h => ?_) (fun h => ?_)) <;> (try (exfalso; omega))) | refine TreeW_intro (by rfl) ?_ | refine TreeW_all ?_ | refine upQ_intro ?_ | refine Two_intro ?_ ?_ | exact wK | exact wD | (simp only [Fact, Bool.not_eq_true', Bool.not_eq_false', decide_eq_true_eq, decide_eq_false_iff_not] at *; exact wD) | (show (_ : Nat) ≤ _; omega)) <;> (try simp (disch := omega) only [*, ↓Ed, Eu, ↓reduceIte, reduceCtorEq, Nat.reduceAdd, Nat.reduceEqDiff, Nat.reduceLT, Nat.reduceLeDiff, Int.reduceToNat, Int.reduceEq, Int.reduceLT, Int.reduceLE, w64, List.length_append, List.length_map, Nat.mul_one, beq_self_eq_true, PktC.cs, EvC.cs, EntC.cs, KeyC.cs, st_nil, Int.reduceAdd]))
          all_goals exact ro_mk (by simp [LeL, lk, hh, resR, arR]) dom3
        | false =>
          cases hb2 : x.t with
          | true =>
            clear hset
            simp only [c_life_Table_Fold, hh, if_true, Bool.false_eq_true, if_false, ↓Ed, Eu, ↓reduceIte, reduceCtorEq, Nat.reduceAdd, Nat.reduceEqDiff, Nat.reduceLT, Nat.reduceLeDiff, Int.reduceToNat, Int.reduceEq, Int.reduceLT, Int.reduceLE, w64, List.length_append, List.length_map, Nat.mul_one, beq_self_eq_true, PktC.cs, EvC.cs, EntC.cs, KeyC.cs, st_nil, Int.reduceAdd]
            repeat' ((first | refine CallO_pure (hM) ?_ | refine CallO_pure (hO) ?_ | refine CallW_intro (hOut) ?_ | refine CallO_pure (hMk _) ?_ | refine CallO_pure (hSe) ?_ | refine NewB_intro0 (fun b => ?_) | (refine NewB_intro (fun b hb => ?_); simp only [ln_cons2, ln_nil, and_true] at hb) | (with_reducible apply wA; focus exact OM_a) | ((first | refine gW_sp ?_ | refine condW_sp ?_ | refine pickW_sp ?_); (try refine Sp_n ?_); (first | refine wT ?_ | refine wF ?_ | refine wL (fun h h' => ?_) (fun h h' => ?_) | refine wE (fun h h' => ?_) (fun h h' => ?_) | refine Sp_split (fun h => ?_) (fun h => ?_)) <;> (try (exfalso; omega))) | refine TreeW_intro (by rfl) ?_ | refine TreeW_all ?_ | refine upQ_intro ?_ | refine Two_intro ?_ ?_ | exact wK | exact wD | (simp only [Fact, Bool.not_eq_true', Bool.not_eq_false', decide_eq_true_eq, decide_eq_false_iff_not] at *; exact wD) | (show (_ : Nat) ≤ _; omega)) <;> (try simp (disch := omega) only [*, ↓Ed, Eu, ↓reduceIte, reduceCtorEq, Nat.reduceAdd, Nat.reduceEqDiff, Nat.reduceLT, Nat.reduceLeDiff, Int.reduceToNat, Int.reduceEq, Int.reduceLT, Int.reduceLE, w64, List.length_append, List.length_map, Nat.mul_one, beq_self_eq_true, PktC.cs, EvC.cs, EntC.cs, KeyC.cs, st_nil, Int.reduceAdd]))
            all_goals exact ro_mk (by simp [LeL, lk, hh, resR, arR]) dom3
          | false =>
            simp only [c_life_Table_Fold, hh, Bool.false_eq_true, if_false, ↓Ed, Eu, ↓reduceIte, reduceCtorEq, Nat.reduceAdd, Nat.reduceEqDiff, Nat.reduceLT, Nat.reduceLeDiff, Int.reduceToNat, Int.reduceEq, Int.reduceLT, Int.reduceLE, w64, List.length_append, List.length_map, Nat.mul_one, beq_self_eq_true, PktC.cs, EvC.cs, EntC.cs, KeyC.cs, st_nil, Int.reduceAdd]
            repeat' ((first | refine CallO_pure (hM) ?_ | refine CallO_pure (hO) ?_ | refine CallW_intro (hOut) ?_ | refine CallO_pure (hMk _) ?_ | refine CallO_pure (hSe) ?_ | refine NewB_intro0 (fun b => ?_) | (refine NewB_intro (fun b hb => ?_); simp only [ln_cons2, ln_nil, and_true] at hb) | (with_reducible apply wA; focus exact OM_a) | ((first | refine gW_sp ?_ | refine condW_sp ?_ | refine pickW_sp ?_); (try refine Sp_n ?_); (first | refine wT ?_ | refine wF ?_ | refine wL (fun h h' => ?_) (fun h h' => ?_) | refine wE (fun h h' => ?_) (fun h h' => ?_) | refine Sp_split (fun h => ?_) (fun h => ?_)) <;> (try (exfalso; omega))) | refine TreeW_intro (by rfl) ?_ | refine TreeW_all ?_ | refine upQ_intro ?_ | refine Two_intro ?_ ?_ | exact wK | exact wD | (simp only [Fact, Bool.not_eq_true', Bool.not_eq_false', decide_eq_true_eq, decide_eq_false_iff_not] at *; exact wD) | (show (_ : Nat) ≤ _; omega)) <;> (try simp (disch := omega) only [*, ↓Ed, Eu, ↓reduceIte, reduceCtorEq, Nat.reduceAdd, Nat.reduceEqDiff, Nat.reduceLT, Nat.reduceLeDiff, Int.reduceToNat, Int.reduceEq, Int.reduceLT, Int.reduceLE, w64, List.length_append, List.length_map, Nat.mul_one, beq_self_eq_true, PktC.cs, EvC.cs, EntC.cs, KeyC.cs, st_nil, Int.reduceAdd]))
            all_goals exact ro_mk (by simp [LeL, lk, hh, resR, arR, mpK, setE_tk, setE_len, ← hset, entA, EntC.cs, hb1, hb2]) dom3
  · have hk : e.k = 5 := k12
    have hkk : 1 ≤ e.k ∧ e.k ≤ 5 := by omega
    have hMk := fun b => p_mark b e.k
    have hOut := p_outK e.k
    have hSm := fun a b => p_Same a b
    rw [show outK e.k = true by rw [hk]; rfl] at hOut
    have hmo : ∀ b, AV.ptr b (markO e.k) = .ptr b 13 := fun b => by rw [hk]; rfl
    simp only [hmo] at hMk
    have hokk : (ownE e).2.2.2 = true := by
      first | rw [own_src hm (by omega)] | rw [own_dst hm (by omega)]
    rw [hokk] at hO
    have hmk : ∀ x, markE x e = { x with t := true } := fun x => by simp [markE, hk]
    have hke : keyE e = ⟨(ownE e).1, (ownE e).2.1, true, (ownE e).2.2.1⟩ := by unfold keyE; rw [show outK e.k = true by rw [hk]; rfl]
    cases hf0 : findE t.K (keyE e) with
    | none =>
      have hf := lookK_none hf0
      rw [fold_new hm hkk hf0, hmk]
      rw [hke] at hf ⊢
      rw [hm] at hM
      have hSe := p_Same e.p e.p
      rw [decide_eq_true rfl] at hSe
      simp only [keyA] at hf
      clear hm hr k12 hN hf0 hke hmk hmo hokk hk hkk hSm
      generalize ownE e = OW at *
      simp only [c_life_Table_Fold, hh, ↓Ed, Eu, ↓reduceIte, reduceCtorEq, Nat.reduceAdd, Nat.reduceEqDiff, Nat.reduceLT, Nat.reduceLeDiff, Int.reduceToNat, Int.reduceEq, Int.reduceLT, Int.reduceLE, w64, List.length_append, List.length_map, Nat.mul_one, beq_self_eq_true, PktC.cs, EvC.cs, EntC.cs, KeyC.cs, st_nil, Int.reduceAdd]
      repeat' ((first | refine CallO_pure (hM) ?_ | refine CallO_pure (hO) ?_ | refine CallW_intro (hOut) ?_ | refine CallO_pure (hMk _) ?_ | refine CallO_pure (hSe) ?_ | refine NewB_intro0 (fun b => ?_) | (refine NewB_intro (fun b hb => ?_); simp only [ln_cons2, ln_nil, and_true] at hb) | (with_reducible apply wA; focus exact OM_a) | ((first | refine gW_sp ?_ | refine condW_sp ?_ | refine pickW_sp ?_); (try refine Sp_n ?_); (first | refine wT ?_ | refine wF ?_ | refine wL (fun h h' => ?_) (fun h h' => ?_) | refine wE (fun h h' => ?_) (fun h h' => ?_) | refine Sp_split (fun h => ?_) (fun h => ?_)) <;> (try (exfalso; omega))) | refine TreeW_intro (by rfl) ?_ | refine TreeW_all ?_ | refine upQ_intro ?_ | refine Two_intro ?_ ?_ | exact wK | exact wD | (simp only [Fact, Bool.not_eq_true', Bool.not_eq_false', decide_eq_true_eq, decide_eq_false_iff_not] at *; exact wD) | (show (_ : Nat) ≤ _; omega)) <;> (try simp (disch := omega) only [*, ↓Ed, Eu, ↓reduceIte, reduceCtorEq, Nat.reduceAdd, Nat.reduceEqDiff, Nat.reduceLT, Nat.reduceLeDiff, Int.reduceToNat, Int.reduceEq, Int.reduceLT, Int.reduceLE, w64, List.length_append, List.length_map, Nat.mul_one, beq_self_eq_true, PktC.cs, EvC.cs, EntC.cs, KeyC.cs, st_nil, Int.reduceAdd]))
      all_goals exact ro_mk (by simp [LeL, lk, hh, resR, arR, mpK, tk, tv, ent0, List.range_succ]) dom3
    | some x =>
      obtain ⟨i, hi, hf, hg, hix⟩ := lookK_some hf0
      rw [fold_some hm hkk hf0, hmk]
      have hset := fun y => setE_tv (y := y) hix hN
      rw [hke] at hf hset ⊢
      rw [hm] at hM
      have hSe := p_Same x.p e.p
      simp only [keyA] at hf
      have hmx : marked x e.k = x.t := by simp [marked, hk]
      have hla : lateE x e.k = x.c := by simp [lateE, hk]
      rw [hmx, hla]
      clear hm hr k12 hN hf0 hke hmk hmo hokk hk hkk hSm hix hmx hla
      generalize ownE e = OW at *
      by_cases hp : x.p = e.p
      rotate_left
      · rw [decide_eq_false hp] at hSe
        rw [if_pos hp]
        clear hp hset
        simp only [c_life_Table_Fold, hh, ↓Ed, Eu, ↓reduceIte, reduceCtorEq, Nat.reduceAdd, Nat.reduceEqDiff, Nat.reduceLT, Nat.reduceLeDiff, Int.reduceToNat, Int.reduceEq, Int.reduceLT, Int.reduceLE, w64, List.length_append, List.length_map, Nat.mul_one, beq_self_eq_true, PktC.cs, EvC.cs, EntC.cs, KeyC.cs, st_nil, Int.reduceAdd]
        repeat' ((first | refine CallO_pure (hM) ?_ | refine CallO_pure (hO) ?_ | refine CallW_intro (hOut) ?_ | refine CallO_pure (hMk _) ?_ | refine CallO_pure (hSe) ?_ | refine NewB_intro0 (fun b => ?_) | (refine NewB_intro (fun b hb => ?_); simp only [ln_cons2, ln_nil, and_true] at hb) | (with_reducible apply wA; focus exact OM_a) | ((first | refine gW_sp ?_ | refine condW_sp ?_ | refine pickW_sp ?_); (try refine Sp_n ?_); (first | refine wT ?_ | refine wF ?_ | refine wL (fun h h' => ?_) (fun h h' => ?_) | refine wE (fun h h' => ?_) (fun h h' => ?_) | refine Sp_split (fun h => ?_) (fun h => ?_)) <;> (try (exfalso; omega))) | refine TreeW_intro (by rfl) ?_ | refine TreeW_all ?_ | refine upQ_intro ?_ | refine Two_intro ?_ ?_ | exact wK | exact wD | (simp only [Fact, Bool.not_eq_true', Bool.not_eq_false', decide_eq_true_eq, decide_eq_false_iff_not] at *; exact wD) | (show (_ : Nat) ≤ _; omega)) <;> (try simp (disch := omega) only [*, ↓Ed, Eu, ↓reduceIte, reduceCtorEq, Nat.reduceAdd, Nat.reduceEqDiff, Nat.reduceLT, Nat.reduceLeDiff, Int.reduceToNat, Int.reduceEq, Int.reduceLT, Int.reduceLE, w64, List.length_append, List.length_map, Nat.mul_one, beq_self_eq_true, PktC.cs, EvC.cs, EntC.cs, KeyC.cs, st_nil, Int.reduceAdd]))
        all_goals exact ro_mk (by simp [LeL, lk, hh, resR, arR]) dom3
      · rw [decide_eq_true hp] at hSe
        rw [if_neg (fun h => h hp)]
        clear hp
        cases hb1 : x.t with
        | true =>
          clear hset
          simp only [c_life_Table_Fold, hh, if_true, ↓Ed, Eu, ↓reduceIte, reduceCtorEq, Nat.reduceAdd, Nat.reduceEqDiff, Nat.reduceLT, Nat.reduceLeDiff, Int.reduceToNat, Int.reduceEq, Int.reduceLT, Int.reduceLE, w64, List.length_append, List.length_map, Nat.mul_one, beq_self_eq_true, PktC.cs, EvC.cs, EntC.cs, KeyC.cs, st_nil, Int.reduceAdd]
          repeat' ((first | refine CallO_pure (hM) ?_ | refine CallO_pure (hO) ?_ | refine CallW_intro (hOut) ?_ | refine CallO_pure (hMk _) ?_ | refine CallO_pure (hSe) ?_ | refine NewB_intro0 (fun b => ?_) | (refine NewB_intro (fun b hb => ?_); simp only [ln_cons2, ln_nil, and_true] at hb) | (with_reducible apply wA; focus exact OM_a) | ((first | refine gW_sp ?_ | refine condW_sp ?_ | refine pickW_sp ?_); (try refine Sp_n ?_); (first | refine wT ?_ | refine wF ?_ | refine wL (fun h h' => ?_) (fun h h' => ?_) | refine wE (fun h h' => ?_) (fun h h' => ?_) | refine Sp_split (fun h => ?_) (fun h => ?_)) <;> (try (exfalso; omega))) | refine TreeW_intro (by rfl) ?_ | refine TreeW_all ?_ | refine upQ_intro ?_ | refine Two_intro ?_ ?_ | exact wK | exact wD | (simp only [Fact, Bool.not_eq_true', Bool.not_eq_false', decide_eq_true_eq, decide_eq_false_iff_not] at *; exact wD) | (show (_ : Nat) ≤ _; omega)) <;> (try simp (disch := omega) only [*, ↓Ed, Eu, ↓reduceIte, reduceCtorEq, Nat.reduceAdd, Nat.reduceEqDiff, Nat.reduceLT, Nat.reduceLeDiff, Int.reduceToNat, Int.reduceEq, Int.reduceLT, Int.reduceLE, w64, List.length_append, List.length_map, Nat.mul_one, beq_self_eq_true, PktC.cs, EvC.cs, EntC.cs, KeyC.cs, st_nil, Int.reduceAdd]))
          all_goals exact ro_mk (by simp [LeL, lk, hh, resR, arR]) dom3
        | false =>
          cases hb2 : x.c with
          | true =>
            clear hset
            simp only [c_life_Table_Fold, hh, if_true, Bool.false_eq_true, if_false, ↓Ed, Eu, ↓reduceIte, reduceCtorEq, Nat.reduceAdd, Nat.reduceEqDiff, Nat.reduceLT, Nat.reduceLeDiff, Int.reduceToNat, Int.reduceEq, Int.reduceLT, Int.reduceLE, w64, List.length_append, List.length_map, Nat.mul_one, beq_self_eq_true, PktC.cs, EvC.cs, EntC.cs, KeyC.cs, st_nil, Int.reduceAdd]
            repeat' ((first | refine CallO_pure (hM) ?_ | refine CallO_pure (hO) ?_ | refine CallW_intro (hOut) ?_ | refine CallO_pure (hMk _) ?_ | refine CallO_pure (hSe) ?_ | refine NewB_intro0 (fun b => ?_) | (refine NewB_intro (fun b hb => ?_); simp only [ln_cons2, ln_nil, and_true] at hb) | (with_reducible apply wA; focus exact OM_a) | ((first | refine gW_sp ?_ | refine condW_sp ?_ | refine pickW_sp ?_); (try refine Sp_n ?_); (first | refine wT ?_ | refine wF ?_ | refine wL (fun h h' => ?_) (fun h h' => ?_) | refine wE (fun h h' => ?_) (fun h h' => ?_) | refine Sp_split (fun h => ?_) (fun h => ?_)) <;> (try (exfalso; omega))) | refine TreeW_intro (by rfl) ?_ | refine TreeW_all ?_ | refine upQ_intro ?_ | refine Two_intro ?_ ?_ | exact wK | exact wD | (simp only [Fact, Bool.not_eq_true', Bool.not_eq_false', decide_eq_true_eq, decide_eq_false_iff_not] at *; exact wD) | (show (_ : Nat) ≤ _; omega)) <;> (try simp (disch := omega) only [*, ↓Ed, Eu, ↓reduceIte, reduceCtorEq, Nat.reduceAdd, Nat.reduceEqDiff, Nat.reduceLT, Nat.reduceLeDiff, Int.reduceToNat, Int.reduceEq, Int.reduceLT, Int.reduceLE, w64, List.length_append, List.length_map, Nat.mul_one, beq_self_eq_true, PktC.cs, EvC.cs, EntC.cs, KeyC.cs, st_nil, Int.reduceAdd]))
            all_goals exact ro_mk (by simp [LeL, lk, hh, resR, arR]) dom3
          | false =>
            simp only [c_life_Table_Fold, hh, Bool.false_eq_true, if_false, ↓Ed, Eu, ↓reduceIte, reduceCtorEq, Nat.reduceAdd, Nat.reduceEqDiff, Nat.reduceLT, Nat.reduceLeDiff, Int.reduceToNat, Int.reduceEq, Int.reduceLT, Int.reduceLE, w64, List.length_append, List.length_map, Nat.mul_one, beq_self_eq_true, PktC.cs, EvC.cs, EntC.cs, KeyC.cs, st_nil, Int.reduceAdd]
            repeat' ((first | refine CallO_pure (hM) ?_ | refine CallO_pure (hO) ?_ | refine CallW_intro (hOut) ?_ | refine CallO_pure (hMk _) ?_ | refine CallO_pure (hSe) ?_ | refine NewB_intro0 (fun b => ?_) | (refine NewB_intro (fun b hb => ?_); simp only [ln_cons2, ln_nil, and_true] at hb) | (with_reducible apply wA; focus exact OM_a) | ((first | refine gW_sp ?_ | refine condW_sp ?_ | refine pickW_sp ?_); (try refine Sp_n ?_); (first | refine wT ?_ | refine wF ?_ | refine wL (fun h h' => ?_) (fun h h' => ?_) | refine wE (fun h h' => ?_) (fun h h' => ?_) | refine Sp_split (fun h => ?_) (fun h => ?_)) <;> (try (exfalso; omega))) | refine TreeW_intro (by rfl) ?_ | refine TreeW_all ?_ | refine upQ_intro ?_ | refine Two_intro ?_ ?_ | exact wK | exact wD | (simp only [Fact, Bool.not_eq_true', Bool.not_eq_false', decide_eq_true_eq, decide_eq_false_iff_not] at *; exact wD) | (show (_ : Nat) ≤ _; omega)) <;> (try simp (disch := omega) only [*, ↓Ed, Eu, ↓reduceIte, reduceCtorEq, Nat.reduceAdd, Nat.reduceEqDiff, Nat.reduceLT, Nat.reduceLeDiff, Int.reduceToNat, Int.reduceEq, Int.reduceLT, Int.reduceLE, w64, List.length_append, List.length_map, Nat.mul_one, beq_self_eq_true, PktC.cs, EvC.cs, EntC.cs, KeyC.cs, st_nil, Int.reduceAdd]))
            all_goals exact ro_mk (by simp [LeL, lk, hh, resR, arR, mpK, setE_tk, setE_len, ← hset, entA, EntC.cs, hb1, hb2]) dom3
  · have hk : e.k = 3 := k12
    have hkk : 1 ≤ e.k ∧ e.k ≤ 5 := by omega
    have hMk := fun b => p_mark b e.k
    have hOut := p_outK e.k
    have hSm := fun a b => p_Same a b
    rw [show outK e.k = false by rw [hk]; rfl] at hOut
    have hmo : ∀ b, AV.ptr b (markO e.k) = .ptr b 11 := fun b => by rw [hk]; rfl
    simp only [hmo] at hMk
    have hokk : (ownE e).2.2.2 = true := by
      first | rw [own_src hm (by omega)] | rw [own_dst hm (by omega)]
    rw [hokk] at hO
    have hmk : ∀ x, markE x e = { x with w := true, a := e.a } := fun x => by simp [markE, hk]
    have hke : keyE e = ⟨(ownE e).1, (ownE e).2.1, false, (ownE e).2.2.1⟩ := by unfold keyE; rw [show outK e.k = false by rw [hk]; rfl]
    cases hf0 : findE t.K (keyE e) with
    | none =>
      have hf := lookK_none hf0
      rw [fold_new hm hkk hf0, hmk]
      rw [hke] at hf ⊢
      rw [hm] at hM
      have hSe := p_Same e.p e.p
      rw [decide_eq_true rfl] at hSe
      simp only [keyA] at hf
      clear hm hr k12 hN hf0 hke hmk hmo hokk hk hkk hSm
      generalize ownE e = OW at *
      simp only [c_life_Table_Fold, hh, ↓Ed, Eu, ↓reduceIte, reduceCtorEq, Nat.reduceAdd, Nat.reduceEqDiff, Nat.reduceLT, Nat.reduceLeDiff, Int.reduceToNat, Int.reduceEq, Int.reduceLT, Int.reduceLE, w64, List.length_append, List.length_map, Nat.mul_one, beq_self_eq_true, PktC.cs, EvC.cs, EntC.cs, KeyC.cs, st_nil, Int.reduceAdd]
      repeat' ((first | refine CallO_pure (hM) ?_ | refine CallO_pure (hO) ?_ | refine CallW_intro (hOut) ?_ | refine CallO_pure (hMk _) ?_ | refine CallO_pure (hSe) ?_ | refine NewB_intro0 (fun b => ?_) | (refine NewB_intro (fun b hb => ?_); simp only [ln_cons2, ln_nil, and_true] at hb) | (with_reducible apply wA; focus exact OM_a) | ((first | refine gW_sp ?_ | refine condW_sp ?_ | refine pickW_sp ?_); (try refine Sp_n ?_); (first | refine wT ?_ | refine wF ?_ | refine wL (fun h h' => ?_) (fun h h' => ?_) | refine wE (fun h h' => ?_) (fun h h' => ?_) | refine Sp_split (fun h => ?_) (fun h => ?_)) <;> (try (exfalso; omega))) | refine TreeW_intro (by rfl) ?_ | refine TreeW_all ?_ | refine upQ_intro ?_ | refine Two_intro ?_ ?_ | exact wK | exact wD | (simp only [Fact, Bool.not_eq_true', Bool.not_eq_false', decide_eq_true_eq, decide_eq_false_iff_not] at *; exact wD) | (show (_ : Nat) ≤ _; omega)) <;> (try simp (disch := omega) only [*, ↓Ed, Eu, ↓reduceIte, reduceCtorEq, Nat.reduceAdd, Nat.reduceEqDiff, Nat.reduceLT, Nat.reduceLeDiff, Int.reduceToNat, Int.reduceEq, Int.reduceLT, Int.reduceLE, w64, List.length_append, List.length_map, Nat.mul_one, beq_self_eq_true, PktC.cs, EvC.cs, EntC.cs, KeyC.cs, st_nil, Int.reduceAdd]))
      all_goals exact ro_mk (by simp [LeL, lk, hh, resR, arR, mpK, tk, tv, ent0, List.range_succ]) dom3
    | some x =>
      obtain ⟨i, hi, hf, hg, hix⟩ := lookK_some hf0
      rw [fold_some hm hkk hf0, hmk]
      have hset := fun y => setE_tv (y := y) hix hN
      rw [hke] at hf hset ⊢
      rw [hm] at hM
      have hSe := p_Same x.p e.p
      simp only [keyA] at hf
      have hmx : marked x e.k = x.w := by simp [marked, hk]
      have hla : lateE x e.k = false := by simp [lateE, hk]
      rw [hmx, hla]
      clear hm hr k12 hN hf0 hke hmk hmo hokk hk hkk hSm hix hmx hla
      generalize ownE e = OW at *
      by_cases hp : x.p = e.p
      rotate_left
      · rw [decide_eq_false hp] at hSe
        rw [if_pos hp]
        clear hp hset
        simp only [c_life_Table_Fold, hh, ↓Ed, Eu, ↓reduceIte, reduceCtorEq, Nat.reduceAdd, Nat.reduceEqDiff, Nat.reduceLT, Nat.reduceLeDiff, Int.reduceToNat, Int.reduceEq, Int.reduceLT, Int.reduceLE, w64, List.length_append, List.length_map, Nat.mul_one, beq_self_eq_true, PktC.cs, EvC.cs, EntC.cs, KeyC.cs, st_nil, Int.reduceAdd]
        repeat' ((first | refine CallO_pure (hM) ?_ | refine CallO_pure (hO) ?_ | refine CallW_intro (hOut) ?_ | refine CallO_pure (hMk _) ?_ | refine CallO_pure (hSe) ?_ | refine NewB_intro0 (fun b => ?_) | (refine NewB_intro (fun b hb => ?_); simp only [ln_cons2, ln_nil, and_true] at hb) | (with_reducible apply wA; focus exact OM_a) | ((first | refine gW_sp ?_ | refine condW_sp ?_ | refine pickW_sp ?_); (try refine Sp_n ?_); (first | refine wT ?_ | refine wF ?_ | refine wL (fun h h' => ?_) (fun h h' => ?_) | refine wE (fun h h' => ?_) (fun h h' => ?_) | refine Sp_split (fun h => ?_) (fun h => ?_)) <;> (try (exfalso; omega))) | refine TreeW_intro (by rfl) ?_ | refine TreeW_all ?_ | refine upQ_intro ?_ | refine Two_intro ?_ ?_ | exact wK | exact wD | (simp only [Fact, Bool.not_eq_true', Bool.not_eq_false', decide_eq_true_eq, decide_eq_false_iff_not] at *; exact wD) | (show (_ : Nat) ≤ _; omega)) <;> (try simp (disch := omega) only [*, ↓Ed, Eu, ↓reduceIte, reduceCtorEq, Nat.reduceAdd, Nat.reduceEqDiff, Nat.reduceLT, Nat.reduceLeDiff, Int.reduceToNat, Int.reduceEq, Int.reduceLT, Int.reduceLE, w64, List.length_append, List.length_map, Nat.mul_one, beq_self_eq_true, PktC.cs, EvC.cs, EntC.cs, KeyC.cs, st_nil, Int.reduceAdd]))
        all_goals exact ro_mk (by simp [LeL, lk, hh, resR, arR]) dom3
      · rw [decide_eq_true hp] at hSe
        rw [if_neg (fun h => h hp)]
        clear hp
        cases hb1 : x.w with
        | true =>
          clear hset
          simp only [c_life_Table_Fold, hh, if_true, ↓Ed, Eu, ↓reduceIte, reduceCtorEq, Nat.reduceAdd, Nat.reduceEqDiff, Nat.reduceLT, Nat.reduceLeDiff, Int.reduceToNat, Int.reduceEq, Int.reduceLT, Int.reduceLE, w64, List.length_append, List.length_map, Nat.mul_one, beq_self_eq_true, PktC.cs, EvC.cs, EntC.cs, KeyC.cs, st_nil, Int.reduceAdd]
          repeat' ((first | refine CallO_pure (hM) ?_ | refine CallO_pure (hO) ?_ | refine CallW_intro (hOut) ?_ | refine CallO_pure (hMk _) ?_ | refine CallO_pure (hSe) ?_ | refine NewB_intro0 (fun b => ?_) | (refine NewB_intro (fun b hb => ?_); simp only [ln_cons2, ln_nil, and_true] at hb) | (with_reducible apply wA; focus exact OM_a) | ((first | refine gW_sp ?_ | refine condW_sp ?_ | refine pickW_sp ?_); (try refine Sp_n ?_); (first | refine wT ?_ | refine wF ?_ | refine wL (fun h h' => ?_) (fun h h' => ?_) | refine wE (fun h h' => ?_) (fun h h' => ?_) | refine Sp_split (fun h => ?_) (fun h => ?_)) <;> (try (exfalso; omega))) | refine TreeW_intro (by rfl) ?_ | refine TreeW_all ?_ | refine upQ_intro ?_ | refine Two_intro ?_ ?_ | exact wK | exact wD | (simp only [Fact, Bool.not_eq_true', Bool.not_eq_false', decide_eq_true_eq, decide_eq_false_iff_not] at *; exact wD) | (show (_ : Nat) ≤ _; omega)) <;> (try simp (disch := omega) only [*, ↓Ed, Eu, ↓reduceIte, reduceCtorEq, Nat.reduceAdd, Nat.reduceEqDiff, Nat.reduceLT, Nat.reduceLeDiff, Int.reduceToNat, Int.reduceEq, Int.reduceLT, Int.reduceLE, w64, List.length_append, List.length_map, Nat.mul_one, beq_self_eq_true, PktC.cs, EvC.cs, EntC.cs, KeyC.cs, st_nil, Int.reduceAdd]))
          all_goals exact ro_mk (by simp [LeL, lk, hh, resR, arR]) dom3
        | false =>
          simp only [c_life_Table_Fold, hh, Bool.false_eq_true, if_false, ↓Ed, Eu, ↓reduceIte, reduceCtorEq, Nat.reduceAdd, Nat.reduceEqDiff, Nat.reduceLT, Nat.reduceLeDiff, Int.reduceToNat, Int.reduceEq, Int.reduceLT, Int.reduceLE, w64, List.length_append, List.length_map, Nat.mul_one, beq_self_eq_true, PktC.cs, EvC.cs, EntC.cs, KeyC.cs, st_nil, Int.reduceAdd]
          repeat' ((first | refine CallO_pure (hM) ?_ | refine CallO_pure (hO) ?_ | refine CallW_intro (hOut) ?_ | refine CallO_pure (hMk _) ?_ | refine CallO_pure (hSe) ?_ | refine NewB_intro0 (fun b => ?_) | (refine NewB_intro (fun b hb => ?_); simp only [ln_cons2, ln_nil, and_true] at hb) | (with_reducible apply wA; focus exact OM_a) | ((first | refine gW_sp ?_ | refine condW_sp ?_ | refine pickW_sp ?_); (try refine Sp_n ?_); (first | refine wT ?_ | refine wF ?_ | refine wL (fun h h' => ?_) (fun h h' => ?_) | refine wE (fun h h' => ?_) (fun h h' => ?_) | refine Sp_split (fun h => ?_) (fun h => ?_)) <;> (try (exfalso; omega))) | refine TreeW_intro (by rfl) ?_ | refine TreeW_all ?_ | refine upQ_intro ?_ | refine Two_intro ?_ ?_ | exact wK | exact wD | (simp only [Fact, Bool.not_eq_true', Bool.not_eq_false', decide_eq_true_eq, decide_eq_false_iff_not] at *; exact wD) | (show (_ : Nat) ≤ _; omega)) <;> (try simp (disch := omega) only [*, ↓Ed, Eu, ↓reduceIte, reduceCtorEq, Nat.reduceAdd, Nat.reduceEqDiff, Nat.reduceLT, Nat.reduceLeDiff, Int.reduceToNat, Int.reduceEq, Int.reduceLT, Int.reduceLE, w64, List.length_append, List.length_map, Nat.mul_one, beq_self_eq_true, PktC.cs, EvC.cs, EntC.cs, KeyC.cs, st_nil, Int.reduceAdd]))
          all_goals exact ro_mk (by simp [LeL, lk, hh, resR, arR, mpK, setE_tk, setE_len, ← hset, entA, EntC.cs, hb1]) dom3
  · have hS := t_shut c m n hh t e.e e.ec
    rw [own_close hm k12] at hO
    rw [fold_cl hm k12]
    rw [hm] at hM
    clear hm hr k12 hN
    generalize (if ((e.e, e.ec) : EndP) ∈ t.C then (8 : Int) else 0) = R at hS ⊢
    generalize (if ((e.e, e.ec) : EndP) ∈ t.C then t else ⟨t.K, t.C ++ [(e.e, e.ec)]⟩) = T at hS ⊢
    simp only [c_life_Table_Fold, hh, ↓Ed, Eu, ↓reduceIte, reduceCtorEq, Nat.reduceAdd, Nat.reduceEqDiff, Nat.reduceLT, Nat.reduceLeDiff, Int.reduceToNat, Int.reduceEq, Int.reduceLT, Int.reduceLE, w64, List.length_append, List.length_map, Nat.mul_one, beq_self_eq_true, PktC.cs, EvC.cs, EntC.cs, KeyC.cs, st_nil, Int.reduceAdd]
    repeat' ((first | refine CallO_pure (hM) ?_ | refine CallO_pure (hO) ?_ | refine c3 (hS) ?_ | refine NewB_intro0 (fun b => ?_) | (refine NewB_intro (fun b hb => ?_); simp only [ln_cons2, ln_nil, and_true] at hb) | (with_reducible apply wA; focus exact OM_a) | ((first | refine gW_sp ?_ | refine condW_sp ?_ | refine pickW_sp ?_); (try refine Sp_n ?_); (first | refine wT ?_ | refine wF ?_ | refine wL (fun h h' => ?_) (fun h h' => ?_) | refine wE (fun h h' => ?_) (fun h h' => ?_) | refine Sp_split (fun h => ?_) (fun h => ?_)) <;> (try (exfalso; omega))) | refine TreeW_intro (by rfl) ?_ | refine TreeW_all ?_ | refine upQ_intro ?_ | refine Two_intro ?_ ?_ | exact wK | exact wD | (simp only [Fact, Bool.not_eq_true', Bool.not_eq_false', decide_eq_true_eq, decide_eq_false_iff_not] at *; exact wD) | (show (_ : Nat) ≤ _; omega)) <;> (try simp (disch := omega) only [*, ↓Ed, Eu, ↓reduceIte, reduceCtorEq, Nat.reduceAdd, Nat.reduceEqDiff, Nat.reduceLT, Nat.reduceLeDiff, Int.reduceToNat, Int.reduceEq, Int.reduceLT, Int.reduceLE, w64, List.length_append, List.length_map, Nat.mul_one, beq_self_eq_true, PktC.cs, EvC.cs, EntC.cs, KeyC.cs, st_nil, Int.reduceAdd]))
    all_goals exact ro_mk (by simp [LeL, lk, hh, resR, arR]) dom3
  · rw [own_up hm k12] at hO
    rw [fold_up hm k12]
    rw [hm] at hM
    clear hm hr k12 hN
    simp only [c_life_Table_Fold, hh, ↓Ed, Eu, ↓reduceIte, reduceCtorEq, Nat.reduceAdd, Nat.reduceEqDiff, Nat.reduceLT, Nat.reduceLeDiff, Int.reduceToNat, Int.reduceEq, Int.reduceLT, Int.reduceLE, w64, List.length_append, List.length_map, Nat.mul_one, beq_self_eq_true, PktC.cs, EvC.cs, EntC.cs, KeyC.cs, st_nil, Int.reduceAdd]
    repeat' ((first | refine CallO_pure (hM) ?_ | refine CallO_pure (hO) ?_ | refine NewB_intro0 (fun b => ?_) | (refine NewB_intro (fun b hb => ?_); simp only [ln_cons2, ln_nil, and_true] at hb) | (with_reducible apply wA; focus exact OM_a) | ((first | refine gW_sp ?_ | refine condW_sp ?_ | refine pickW_sp ?_); (try refine Sp_n ?_); (first | refine wT ?_ | refine wF ?_ | refine wL (fun h h' => ?_) (fun h h' => ?_) | refine wE (fun h h' => ?_) (fun h h' => ?_) | refine Sp_split (fun h => ?_) (fun h => ?_)) <;> (try (exfalso; omega))) | refine TreeW_intro (by rfl) ?_ | refine TreeW_all ?_ | refine upQ_intro ?_ | refine Two_intro ?_ ?_ | exact wK | exact wD | (simp only [Fact, Bool.not_eq_true', Bool.not_eq_false', decide_eq_true_eq, decide_eq_false_iff_not] at *; exact wD) | (show (_ : Nat) ≤ _; omega)) <;> (try simp (disch := omega) only [*, ↓Ed, Eu, ↓reduceIte, reduceCtorEq, Nat.reduceAdd, Nat.reduceEqDiff, Nat.reduceLT, Nat.reduceLeDiff, Int.reduceToNat, Int.reduceEq, Int.reduceLT, Int.reduceLE, w64, List.length_append, List.length_map, Nat.mul_one, beq_self_eq_true, PktC.cs, EvC.cs, EntC.cs, KeyC.cs, st_nil, Int.reduceAdd]))
    all_goals exact ro_mk (by simp [LeL, lk, hh, resR, arR]) dom3
  · have : e.k < 1 := k12
    omega
  · have : 7 < e.k := k12
    omega
end Go.Proofs.Ytobopbjedojebaa
