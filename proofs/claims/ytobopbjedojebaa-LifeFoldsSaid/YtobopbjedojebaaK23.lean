import Derived.Test.YtobopbjedojebaaK22
/- chapter 22: LifeFolds -/
namespace Go.Proofs.Ytobopbjedojebaa
set_option linter.all false
open Go.RowKit Classical
set_option maxRecDepth 100000
theorem evl_gt2 (l : List EvC) (i : Nat) (h : i < l.length) : (evl l).getD i [] = (l.getD i default).cs := by simp [evl, h]
theorem light_bd {l : List EvC} (h : lightEs l) {i : Nat} (hi : i < l.length) : (l.getD i default).p.s.length ≤ 1000000 ∧ (l.getD i default).p.d.length ≤ 1000000 ∧ (l.getD i default).p.x.length ≤ 1000000 ∧ (l.getD i default).e.length ≤ 1000000 ∧ (l.getD i default).a.length ≤ 1000000 := by
  obtain ⟨⟨h1, h2, h3⟩, h4, h5⟩ := h.2 i hi
  exact ⟨by omega, by omega, by omega, by omega, by omega⟩
theorem take_one {l : List EvC} {k : Nat} (h : k < l.length) : l.take (k + 1) = l.take k ++ [l.getD k default] := by
  rw [List.take_succ, List.getElem?_eq_getElem h]; simp [List.getD, h]
/-- The table after the first i events. -/
noncomputable def tabN (l : List EvC) (i : Nat) : Tb := foldL ⟨[], []⟩ (l.take i)
theorem tabN_0 (l : List EvC) : tabN l 0 = ⟨[], []⟩ := rfl
theorem tabN_s {l : List EvC} {i : Nat} (h : i < l.length) : tabN l (i + 1) = (foldT (tabN l i) (l.getD i default)).1 := by
  unfold tabN; rw [take_one h, foldL_snoc]
theorem tabN_good {l : List EvC} (h : lightEs l) (i : Nat) : Tgood 900 (tabN l i) := by
  have h0 := foldL_good tgood0 (l.take i)
  have h1 : l.length ≤ 60 := h.1
  exact h0.mono (by simp; omega)
/-- The document's row lies apart from these blocks. -/
def awayL (bs : List Nat) : Gx → Prop
  | .inl _ => True
  | .inr x => ∀ b ∈ bs, ¬ x.g = b ∧ ¬ b = x.g
theorem fresh_ne {o : Nat → Option (List AV)} {b c : Nat} (h : o b = none) (hc : o c ≠ none) : ¬ b = c ∧ ¬ c = b :=
  ⟨fun e => hc (by rw [← e, h]), fun e => hc (by rw [e, h])⟩
theorem away_new {o : Nat → Option (List AV)} {bs : List Nat} {o1 o2 : List (Nat × List AV)} {g : Nat} {cs : List AV}
    (hf : ∀ b cs, lk o2 b = some cs → lk o1 b = none → o b = none) (hg : lk o2 g = some cs) (h1 : ∀ b ∈ bs, o b ≠ none)
    (h2 : lk o1 g ≠ none → ∀ b ∈ bs, ¬ g = b ∧ ¬ b = g) : ∀ b ∈ bs, ¬ g = b ∧ ¬ b = g := by
  by_cases h : lk o1 g = none
  · exact fun b hb => fresh_ne (hf g cs hg h) (h1 b hb)
  · exact h2 h
theorem Fx.lkg {x : Fx} {p g : Nat} {t : Tb} (h : x.ok p t) : lk (x.o p g t) x.g = some (hcE x.cap (dOf t).E) := by
  obtain ⟨_, _, h3, _⟩ := h
  exact lk_tl h3.1 (lk_hd _ _ _)
theorem Fx.lkg' {x : Fx} {p : Nat} {t : Tb} (h : x.ok p t) : lk (Gx.o (.inr x) p t) x.g = some (hcE x.cap (dOf t).E) := by
  obtain ⟨_, _, h3, _⟩ := h
  exact lk_tl h3.1 (lk_hd _ _ _)
set_option maxHeartbeats 16000000 in
theorem p_LifeFolds (l : List EvC) (k : KeyC) (hl : l.length ≤ maxLen) : CP Try.prog 4 [.sl none 13 (evl l), .agg k.cs] (.bool true) := by
  have hL := p_LightEs (.sl none 13 (evl l)) l rfl hl
  refine ok_liglaw22_LifeFolds _ _ (by simp) ?_
  by_cases h1 : lightEs l
  rotate_left
  · rw [decide_eq_false h1] at hL
    clear h1 hl
    simp only [c_liglaw22_LifeFolds, ↓Ed, Eu, ↓reduceIte, reduceCtorEq, Nat.reduceAdd, Nat.reduceEqDiff, Nat.reduceLT, Nat.reduceLeDiff, Int.reduceToNat, Int.reduceEq, Int.reduceLT, Int.reduceLE, w64, List.length_append, List.length_map, Nat.mul_one, beq_self_eq_true, PktC.cs, EvC.cs, EntC.cs, KeyC.cs, st_nil, Int.reduceAdd, evl_len, evl_gt2]
    repeat' ((first | refine CallO_pure (p_first) ?_ | refine CallO_pure (hL) ?_ | refine NewB_intro0 (fun b => ?_) | (refine NewB_intro (fun b hb => ?_); simp only [ln_cons2, ln_nil, and_true] at hb) | (with_reducible apply wA; focus exact OM_a) | ((first | refine gW_sp ?_ | refine condW_sp ?_ | refine pickW_sp ?_); (try refine Sp_n ?_); (first | refine wT ?_ | refine wF ?_ | refine wL (fun h h' => ?_) (fun h h' => ?_) | refine wE (fun h h' => ?_) (fun h h' => ?_) | refine Sp_split (fun h => ?_) (fun h => ?_)) <;> (try (exfalso; omega))) | refine TreeW_intro (by rfl) ?_ | refine TreeW_all ?_ | refine upQ_intro ?_ | refine Two_intro ?_ ?_ | exact wK | exact wD | (simp only [Fact, Bool.not_eq_true', Bool.not_eq_false', decide_eq_true_eq, decide_eq_false_iff_not] at *; exact wD) | (show (_ : Nat) ≤ _; omega)) <;> (try simp (disch := omega) only [*, ↓Ed, Eu, ↓reduceIte, reduceCtorEq, Nat.reduceAdd, Nat.reduceEqDiff, Nat.reduceLT, Nat.reduceLeDiff, Int.reduceToNat, Int.reduceEq, Int.reduceLT, Int.reduceLE, w64, List.length_append, List.length_map, Nat.mul_one, beq_self_eq_true, PktC.cs, EvC.cs, EntC.cs, KeyC.cs, st_nil, Int.reduceAdd, evl_len, evl_gt2]))
  rw [decide_eq_true h1] at hL
  by_cases h2 : k.e.length ≤ 60
  rotate_left
  · have f1 : Fact (decide (60 < (k.e.length : Int)) = true) := by simp only [Fact, Bool.not_eq_true', Bool.not_eq_false', decide_eq_true_eq, decide_eq_false_iff_not]; omega
    clear h1 hl h2
    simp only [c_liglaw22_LifeFolds, ↓Ed, Eu, ↓reduceIte, reduceCtorEq, Nat.reduceAdd, Nat.reduceEqDiff, Nat.reduceLT, Nat.reduceLeDiff, Int.reduceToNat, Int.reduceEq, Int.reduceLT, Int.reduceLE, w64, List.length_append, List.length_map, Nat.mul_one, beq_self_eq_true, PktC.cs, EvC.cs, EntC.cs, KeyC.cs, st_nil, Int.reduceAdd, evl_len, evl_gt2]
    repeat' ((first | refine CallO_pure (p_first) ?_ | refine CallO_pure (hL) ?_ | refine NewB_intro0 (fun b => ?_) | (refine NewB_intro (fun b hb => ?_); simp only [ln_cons2, ln_nil, and_true] at hb) | (with_reducible apply wA; focus exact OM_a) | ((first | refine gW_sp ?_ | refine condW_sp ?_ | refine pickW_sp ?_); (try refine Sp_n ?_); (first | refine wT ?_ | refine wF ?_ | refine wL (fun h h' => ?_) (fun h h' => ?_) | refine wE (fun h h' => ?_) (fun h h' => ?_) | refine Sp_split (fun h => ?_) (fun h => ?_)) <;> (try (exfalso; omega))) | refine TreeW_intro (by rfl) ?_ | refine TreeW_all ?_ | refine upQ_intro ?_ | refine Two_intro ?_ ?_ | exact wK | exact wD | (simp only [Fact, Bool.not_eq_true', Bool.not_eq_false', decide_eq_true_eq, decide_eq_false_iff_not] at *; exact wD) | (show (_ : Nat) ≤ _; omega)) <;> (try simp (disch := omega) only [*, ↓Ed, Eu, ↓reduceIte, reduceCtorEq, Nat.reduceAdd, Nat.reduceEqDiff, Nat.reduceLT, Nat.reduceLeDiff, Int.reduceToNat, Int.reduceEq, Int.reduceLT, Int.reduceLE, w64, List.length_append, List.length_map, Nat.mul_one, beq_self_eq_true, PktC.cs, EvC.cs, EntC.cs, KeyC.cs, st_nil, Int.reduceAdd, evl_len, evl_gt2]))
  have f1 : Fact (decide (60 < (k.e.length : Int)) = false) := by simp only [Fact, Bool.not_eq_true', Bool.not_eq_false', decide_eq_true_eq, decide_eq_false_iff_not]; omega
  clear h2 hl
  have hG := tabN_good h1
  have hB := fun i hi => light_bd h1 (i := i) hi
  have hlen : l.length ≤ 60 := h1.1
  clear h1
  simp only [c_liglaw22_LifeFolds, ↓Ed, Eu, ↓reduceIte, reduceCtorEq, Nat.reduceAdd, Nat.reduceEqDiff, Nat.reduceLT, Nat.reduceLeDiff, Int.reduceToNat, Int.reduceEq, Int.reduceLT, Int.reduceLE, w64, List.length_append, List.length_map, Nat.mul_one, beq_self_eq_true, PktC.cs, EvC.cs, EntC.cs, KeyC.cs, st_nil, Int.reduceAdd, evl_len, evl_gt2]
  repeat' ((first | refine CallO_pure (p_first) ?_ | refine CallO_pure (hL) ?_ | (refine CallO_new3 (t_New3) (NewB3_intro (fun c m n hc hm hn hcmn => ?_)); simp only [ln_cons2, ln_nil, and_true] at hc hm hn) | refine NewB_intro0 (fun b => ?_) | (refine NewB_intro (fun b hb => ?_); simp only [ln_cons2, ln_nil, and_true] at hb) | (with_reducible apply wA; focus exact OM_a) | ((first | refine gW_sp ?_ | refine condW_sp ?_ | refine pickW_sp ?_); (try refine Sp_n ?_); (first | refine wT ?_ | refine wF ?_ | refine wL (fun h h' => ?_) (fun h h' => ?_) | refine wE (fun h h' => ?_) (fun h h' => ?_) | refine Sp_split (fun h => ?_) (fun h => ?_)) <;> (try (exfalso; omega))) | refine TreeW_intro (by rfl) ?_ | refine TreeW_all ?_ | refine upQ_intro ?_ | refine Two_intro ?_ ?_ | exact wK | exact wD | (simp only [Fact, Bool.not_eq_true', Bool.not_eq_false', decide_eq_true_eq, decide_eq_false_iff_not] at *; exact wD) | (show (_ : Nat) ≤ _; omega)) <;> (try simp (disch := omega) only [*, ↓Ed, Eu, ↓reduceIte, reduceCtorEq, Nat.reduceAdd, Nat.reduceEqDiff, Nat.reduceLT, Nat.reduceLeDiff, Int.reduceToNat, Int.reduceEq, Int.reduceLT, Int.reduceLE, w64, List.length_append, List.length_map, Nat.mul_one, beq_self_eq_true, PktC.cs, EvC.cs, EntC.cs, KeyC.cs, st_nil, Int.reduceAdd, evl_len, evl_gt2]))
  rename_i bk
  clear hL
  refine wpx_loop (fun z : Nat × Gx => ⟨lk [(0, .sl none 13 (evl l)), (3, .ptr bk 0), (5, .ptr c 0), (6, .ptr b 0), (7, .int .i64 (z.1 : Int))], lk ((bk, k.cs) :: tabO c m n (tabN l z.1) ++ z.2.o b (tabN l z.1))⟩) (fun z => z.1 ≤ l.length ∧ z.2.ok b (tabN l z.1) ∧ awayL [bk, c, m, n] z.2) (fun z => l.length - z.1) (0, .inl (.nils 52 4, .nils 23 2)) ⟨by omega, ⟨rfl, rfl, rfl⟩, trivial⟩ (Le_lit (by simp [LeL, lk, hc, hm, hn, hcmn, hb, tabN_0])) ?_
  rintro ⟨i, x⟩ ⟨i1, i2, i3⟩
  by_cases hi : i < l.length
  · have f2 : Fact (decide ((i : Int) < l.length) = true) := by simp only [Fact, Bool.not_eq_true', Bool.not_eq_false', decide_eq_true_eq, decide_eq_false_iff_not]; omega
    have gi := hG i
    obtain ⟨b1, b2, b3, b4, b5⟩ := hB i hi
    have hT := tabN_s hi
    have hF := t_Fold c m n hcmn (tabN l i) (l.getD i default) gi.k b1 b2 b3 b4 b5
    rcases x with ⟨kc, cc⟩ | ⟨kc, cc, g, cap, X⟩
    · obtain ⟨j1, j2, j3⟩ := i2
      have hD := t_dFold0 b kc cc (tabN l i) j1 j2 gi j3 (l.getD i default) b1 b2 b3 b4 b5
      clear b1 b2 b3 b4 b5 hG hB gi j3 i3
      generalize hxi : l.getD i default = e at *
      rw [← hT] at hF hD
      clear hT
      generalize hTT : tabN l (i + 1) = T' at *
      generalize tabN l i = T at *
      generalize (foldT T e).2 = R at *
      simp (disch := omega) only [hxi, hc, hm, hn, hcmn, hb, List.cons_append, List.nil_append, ↓Ed, Eu, ↓reduceIte, reduceCtorEq, Nat.reduceAdd, Nat.reduceEqDiff, Nat.reduceLT, Nat.reduceLeDiff, Int.reduceToNat, Int.reduceEq, Int.reduceLT, Int.reduceLE, w64, List.length_append, List.length_map, Nat.mul_one, beq_self_eq_true, PktC.cs, EvC.cs, EntC.cs, KeyC.cs, st_nil, Int.reduceAdd, evl_len, evl_gt2]
      repeat' ((first | refine c3 (hF) ?_ | refine NewB_intro0 (fun b => ?_) | (refine NewB_intro (fun b hb => ?_); simp only [ln_cons2, ln_nil, and_true] at hb) | (with_reducible apply wA; focus exact OM_a) | ((first | refine gW_sp ?_ | refine condW_sp ?_ | refine pickW_sp ?_); (try refine Sp_n ?_); (first | refine wT ?_ | refine wF ?_ | refine wL (fun h h' => ?_) (fun h h' => ?_) | refine wE (fun h h' => ?_) (fun h h' => ?_) | refine Sp_split (fun h => ?_) (fun h => ?_)) <;> (try (exfalso; omega))) | refine TreeW_intro (by rfl) ?_ | refine TreeW_all ?_ | refine upQ_intro ?_ | refine Two_intro ?_ ?_ | exact wK | exact wD | (simp only [Fact, Bool.not_eq_true', Bool.not_eq_false', decide_eq_true_eq, decide_eq_false_iff_not] at *; exact wD) | (show (_ : Nat) ≤ _; omega)) <;> (try simp (disch := omega) only [*, ↓Ed, Eu, ↓reduceIte, reduceCtorEq, Nat.reduceAdd, Nat.reduceEqDiff, Nat.reduceLT, Nat.reduceLeDiff, Int.reduceToNat, Int.reduceEq, Int.reduceLT, Int.reduceLE, w64, List.length_append, List.length_map, Nat.mul_one, beq_self_eq_true, PktC.cs, EvC.cs, EntC.cs, KeyC.cs, st_nil, Int.reduceAdd, evl_len, evl_gt2]))
      refine CallO_ex hD (lk_sub1 (by simp [lk, hc, hm, hn, hcmn, hb])) (fun y hy hf => ?_)
      rcases y with ⟨kc', cc'⟩ | y
      · simp (disch := omega) only [hc, hm, hn, hcmn, hb, ↓Ed, Eu, ↓reduceIte, reduceCtorEq, Nat.reduceAdd, Nat.reduceEqDiff, Nat.reduceLT, Nat.reduceLeDiff, Int.reduceToNat, Int.reduceEq, Int.reduceLT, Int.reduceLE, w64, List.length_append, List.length_map, Nat.mul_one, beq_self_eq_true, PktC.cs, EvC.cs, EntC.cs, KeyC.cs, st_nil, Int.reduceAdd, evl_len, evl_gt2]
        repeat' ((first | refine NewB_intro0 (fun b => ?_) | (refine NewB_intro (fun b hb => ?_); simp only [ln_cons2, ln_nil, and_true] at hb) | (with_reducible apply wA; focus exact OM_a) | ((first | refine gW_sp ?_ | refine condW_sp ?_ | refine pickW_sp ?_); (try refine Sp_n ?_); (first | refine wT ?_ | refine wF ?_ | refine wL (fun h h' => ?_) (fun h h' => ?_) | refine wE (fun h h' => ?_) (fun h h' => ?_) | refine Sp_split (fun h => ?_) (fun h => ?_)) <;> (try (exfalso; omega))) | refine TreeW_intro (by rfl) ?_ | refine TreeW_all ?_ | refine upQ_intro ?_ | refine Two_intro ?_ ?_ | exact wK | exact wD | (simp only [Fact, Bool.not_eq_true', Bool.not_eq_false', decide_eq_true_eq, decide_eq_false_iff_not] at *; exact wD) | (show (_ : Nat) ≤ _; omega)) <;> (try simp (disch := omega) only [*, ↓Ed, Eu, ↓reduceIte, reduceCtorEq, Nat.reduceAdd, Nat.reduceEqDiff, Nat.reduceLT, Nat.reduceLeDiff, Int.reduceToNat, Int.reduceEq, Int.reduceLT, Int.reduceLE, w64, List.length_append, List.length_map, Nat.mul_one, beq_self_eq_true, PktC.cs, EvC.cs, EntC.cs, KeyC.cs, st_nil, Int.reduceAdd, evl_len, evl_gt2]))
        all_goals exact Round_lit (i + 1, .inl (kc', cc')) ⟨Le_lit (by simp [LeL, lk, hc, hm, hn, hcmn, hb, hTT]), ⟨by show i + 1 ≤ _; omega, by show Gx.ok _ _ (tabN l (i + 1)); rw [hTT]; exact hy, trivial⟩, by show l.length - (i + 1) < l.length - i; omega⟩
      · have hy' : Fx.ok y b T' := hy
        have hA := away_new (bs := [bk, c, m, n]) hf (Fx.lkg' hy') (by simp [lk, hc, hm, hn, hcmn, hb]) (fun h0 => absurd (by simpa [lk] using hy'.2.2.1.1) h0)
        have hA2 : (¬ y.g = bk ∧ ¬ bk = y.g) ∧ (¬ y.g = c ∧ ¬ c = y.g) ∧ (¬ y.g = m ∧ ¬ m = y.g) ∧ ¬ y.g = n ∧ ¬ n = y.g := by simpa using hA
        obtain ⟨y1, y2, y3, y4⟩ := hy'
        clear hf
        simp (disch := omega) only [y3, hA2, hc, hm, hn, hcmn, hb, ↓Ed, Eu, ↓reduceIte, reduceCtorEq, Nat.reduceAdd, Nat.reduceEqDiff, Nat.reduceLT, Nat.reduceLeDiff, Int.reduceToNat, Int.reduceEq, Int.reduceLT, Int.reduceLE, w64, List.length_append, List.length_map, Nat.mul_one, beq_self_eq_true, PktC.cs, EvC.cs, EntC.cs, KeyC.cs, st_nil, Int.reduceAdd, evl_len, evl_gt2]
        repeat' ((first | refine NewB_intro0 (fun b => ?_) | (refine NewB_intro (fun b hb => ?_); simp only [ln_cons2, ln_nil, and_true] at hb) | (with_reducible apply wA; focus exact OM_a) | ((first | refine gW_sp ?_ | refine condW_sp ?_ | refine pickW_sp ?_); (try refine Sp_n ?_); (first | refine wT ?_ | refine wF ?_ | refine wL (fun h h' => ?_) (fun h h' => ?_) | refine wE (fun h h' => ?_) (fun h h' => ?_) | refine Sp_split (fun h => ?_) (fun h => ?_)) <;> (try (exfalso; omega))) | refine TreeW_intro (by rfl) ?_ | refine TreeW_all ?_ | refine upQ_intro ?_ | refine Two_intro ?_ ?_ | exact wK | exact wD | (simp only [Fact, Bool.not_eq_true', Bool.not_eq_false', decide_eq_true_eq, decide_eq_false_iff_not] at *; exact wD) | (show (_ : Nat) ≤ _; omega)) <;> (try simp (disch := omega) only [*, ↓Ed, Eu, ↓reduceIte, reduceCtorEq, Nat.reduceAdd, Nat.reduceEqDiff, Nat.reduceLT, Nat.reduceLeDiff, Int.reduceToNat, Int.reduceEq, Int.reduceLT, Int.reduceLE, w64, List.length_append, List.length_map, Nat.mul_one, beq_self_eq_true, PktC.cs, EvC.cs, EntC.cs, KeyC.cs, st_nil, Int.reduceAdd, evl_len, evl_gt2]))
        all_goals exact Round_lit (i + 1, .inr y) ⟨Le_lit (by simp [LeL, lk, hc, hm, hn, hcmn, hb, y3, hA2, hTT]), ⟨by show i + 1 ≤ _; omega, by show Gx.ok _ _ (tabN l (i + 1)); rw [hTT]; exact hy, hA⟩, by show l.length - (i + 1) < l.length - i; omega⟩
    · obtain ⟨j1, j2, j3, j4⟩ := i2
      have j5 : (¬ g = bk ∧ ¬ bk = g) ∧ (¬ g = c ∧ ¬ c = g) ∧ (¬ g = m ∧ ¬ m = g) ∧ ¬ g = n ∧ ¬ n = g := by simpa [awayL] using i3
      have hD := t_dFold1 b g j3 kc cc cap (tabN l i) j1 j2 gi j4 (l.getD i default) b1 b2 b3 b4 b5
      clear b1 b2 b3 b4 b5 hG hB gi
      generalize hxi : l.getD i default = e at *
      rw [← hT] at hF hD
      clear hT
      generalize hTT : tabN l (i + 1) = T' at *
      generalize tabN l i = T at *
      generalize (foldT T e).2 = R at *
      simp only at j3
      simp (disch := omega) only [hxi, hc, hm, hn, hcmn, hb, j3, j5, List.cons_append, List.nil_append, ↓Ed, Eu, ↓reduceIte, reduceCtorEq, Nat.reduceAdd, Nat.reduceEqDiff, Nat.reduceLT, Nat.reduceLeDiff, Int.reduceToNat, Int.reduceEq, Int.reduceLT, Int.reduceLE, w64, List.length_append, List.length_map, Nat.mul_one, beq_self_eq_true, PktC.cs, EvC.cs, EntC.cs, KeyC.cs, st_nil, Int.reduceAdd, evl_len, evl_gt2]
      repeat' ((first | refine c3 (hF) ?_ | refine NewB_intro0 (fun b => ?_) | (refine NewB_intro (fun b hb => ?_); simp only [ln_cons2, ln_nil, and_true] at hb) | (with_reducible apply wA; focus exact OM_a) | ((first | refine gW_sp ?_ | refine condW_sp ?_ | refine pickW_sp ?_); (try refine Sp_n ?_); (first | refine wT ?_ | refine wF ?_ | refine wL (fun h h' => ?_) (fun h h' => ?_) | refine wE (fun h h' => ?_) (fun h h' => ?_) | refine Sp_split (fun h => ?_) (fun h => ?_)) <;> (try (exfalso; omega))) | refine TreeW_intro (by rfl) ?_ | refine TreeW_all ?_ | refine upQ_intro ?_ | refine Two_intro ?_ ?_ | exact wK | exact wD | (simp only [Fact, Bool.not_eq_true', Bool.not_eq_false', decide_eq_true_eq, decide_eq_false_iff_not] at *; exact wD) | (show (_ : Nat) ≤ _; omega)) <;> (try simp (disch := omega) only [*, ↓Ed, Eu, ↓reduceIte, reduceCtorEq, Nat.reduceAdd, Nat.reduceEqDiff, Nat.reduceLT, Nat.reduceLeDiff, Int.reduceToNat, Int.reduceEq, Int.reduceLT, Int.reduceLE, w64, List.length_append, List.length_map, Nat.mul_one, beq_self_eq_true, PktC.cs, EvC.cs, EntC.cs, KeyC.cs, st_nil, Int.reduceAdd, evl_len, evl_gt2]))
      refine CallO_ex hD (lk_sub2 (by simp [lk, hc, hm, hn, hcmn, hb, j3, j5]) (by simp [lk, hc, hm, hn, hcmn, hb, j3, j5])) (fun y hy hf => ?_)
      have hA := away_new (bs := [bk, c, m, n]) hf (Fx.lkg hy) (by simp [lk, hc, hm, hn, hcmn, hb, j3, j5]) (fun h0 => by
        by_cases hgg : y.g = g
        · rw [hgg]; exact i3
        · exact absurd (by simp [lk, hy.2.2.1.1, hgg]) h0)
      have hA2 : (¬ y.g = bk ∧ ¬ bk = y.g) ∧ (¬ y.g = c ∧ ¬ c = y.g) ∧ (¬ y.g = m ∧ ¬ m = y.g) ∧ ¬ y.g = n ∧ ¬ n = y.g := by simpa using hA
      obtain ⟨y1, y2, y3, y4⟩ := id hy
      clear hf i3
      by_cases hgg : y.g = g
      · simp (disch := omega) only [hgg, j3, j5, hc, hm, hn, hcmn, hb, ↓Ed, Eu, ↓reduceIte, reduceCtorEq, Nat.reduceAdd, Nat.reduceEqDiff, Nat.reduceLT, Nat.reduceLeDiff, Int.reduceToNat, Int.reduceEq, Int.reduceLT, Int.reduceLE, w64, List.length_append, List.length_map, Nat.mul_one, beq_self_eq_true, PktC.cs, EvC.cs, EntC.cs, KeyC.cs, st_nil, Int.reduceAdd, evl_len, evl_gt2]
        repeat' ((first | refine NewB_intro0 (fun b => ?_) | (refine NewB_intro (fun b hb => ?_); simp only [ln_cons2, ln_nil, and_true] at hb) | (with_reducible apply wA; focus exact OM_a) | ((first | refine gW_sp ?_ | refine condW_sp ?_ | refine pickW_sp ?_); (try refine Sp_n ?_); (first | refine wT ?_ | refine wF ?_ | refine wL (fun h h' => ?_) (fun h h' => ?_) | refine wE (fun h h' => ?_) (fun h h' => ?_) | refine Sp_split (fun h => ?_) (fun h => ?_)) <;> (try (exfalso; omega))) | refine TreeW_intro (by rfl) ?_ | refine TreeW_all ?_ | refine upQ_intro ?_ | refine Two_intro ?_ ?_ | exact wK | exact wD | (simp only [Fact, Bool.not_eq_true', Bool.not_eq_false', decide_eq_true_eq, decide_eq_false_iff_not] at *; exact wD) | (show (_ : Nat) ≤ _; omega)) <;> (try simp (disch := omega) only [*, ↓Ed, Eu, ↓reduceIte, reduceCtorEq, Nat.reduceAdd, Nat.reduceEqDiff, Nat.reduceLT, Nat.reduceLeDiff, Int.reduceToNat, Int.reduceEq, Int.reduceLT, Int.reduceLE, w64, List.length_append, List.length_map, Nat.mul_one, beq_self_eq_true, PktC.cs, EvC.cs, EntC.cs, KeyC.cs, st_nil, Int.reduceAdd, evl_len, evl_gt2]))
        all_goals exact Round_lit (i + 1, .inr y) ⟨Le_lit (by simp [LeL, lk, hc, hm, hn, hcmn, hb, hgg, j3, j5, hTT]), ⟨by show i + 1 ≤ _; omega, by show Gx.ok _ _ (tabN l (i + 1)); rw [hTT]; exact hy, hA⟩, by show l.length - (i + 1) < l.length - i; omega⟩
      · have hgg' : ¬ g = y.g := fun e => hgg e.symm
        simp (disch := omega) only [hgg, hgg', y3, hA2, j3, j5, hc, hm, hn, hcmn, hb, ↓Ed, Eu, ↓reduceIte, reduceCtorEq, Nat.reduceAdd, Nat.reduceEqDiff, Nat.reduceLT, Nat.reduceLeDiff, Int.reduceToNat, Int.reduceEq, Int.reduceLT, Int.reduceLE, w64, List.length_append, List.length_map, Nat.mul_one, beq_self_eq_true, PktC.cs, EvC.cs, EntC.cs, KeyC.cs, st_nil, Int.reduceAdd, evl_len, evl_gt2]
        repeat' ((first | refine NewB_intro0 (fun b => ?_) | (refine NewB_intro (fun b hb => ?_); simp only [ln_cons2, ln_nil, and_true] at hb) | (with_reducible apply wA; focus exact OM_a) | ((first | refine gW_sp ?_ | refine condW_sp ?_ | refine pickW_sp ?_); (try refine Sp_n ?_); (first | refine wT ?_ | refine wF ?_ | refine wL (fun h h' => ?_) (fun h h' => ?_) | refine wE (fun h h' => ?_) (fun h h' => ?_) | refine Sp_split (fun h => ?_) (fun h => ?_)) <;> (try (exfalso; omega))) | refine TreeW_intro (by rfl) ?_ | refine TreeW_all ?_ | refine upQ_intro ?_ | refine Two_intro ?_ ?_ | exact wK | exact wD | (simp only [Fact, Bool.not_eq_true', Bool.not_eq_false', decide_eq_true_eq, decide_eq_false_iff_not] at *; exact wD) | (show (_ : Nat) ≤ _; omega)) <;> (try simp (disch := omega) only [*, ↓Ed, Eu, ↓reduceIte, reduceCtorEq, Nat.reduceAdd, Nat.reduceEqDiff, Nat.reduceLT, Nat.reduceLeDiff, Int.reduceToNat, Int.reduceEq, Int.reduceLT, Int.reduceLE, w64, List.length_append, List.length_map, Nat.mul_one, beq_self_eq_true, PktC.cs, EvC.cs, EntC.cs, KeyC.cs, st_nil, Int.reduceAdd, evl_len, evl_gt2]))
        all_goals exact Round_lit (i + 1, .inr y) ⟨Le_lit (by simp [LeL, lk, hc, hm, hn, hcmn, hb, hgg, hgg', y3, hA2, j3, j5, hTT]), ⟨by show i + 1 ≤ _; omega, by show Gx.ok _ _ (tabN l (i + 1)); rw [hTT]; exact hy, hA⟩, by show l.length - (i + 1) < l.length - i; omega⟩
  have hie : i = l.length := by
    have : i ≤ l.length := i1
    omega
  subst hie
  have f2 : Fact (decide ((l.length : Int) < l.length) = false) := by simp only [Fact, Bool.not_eq_true', Bool.not_eq_false', decide_eq_true_eq, decide_eq_false_iff_not]; omega
  have gi := hG l.length
  have cG := t_Get c m n hcmn (tabN l l.length) k
  have cS := t_Stage c m n hcmn (tabN l l.length) k
  clear hG hB
  rcases x with ⟨kc, cc⟩ | ⟨kc, cc, g, cap, X⟩
  · obtain ⟨j1, j2, j3⟩ := i2
    have cD := t_dGet0 b kc cc (tabN l l.length) j1 gi j3 k
    have cT := t_dStage0 b kc cc (tabN l l.length) j1 gi j3 k
    have cM := t_Same0 c m n b hcmn ⟨hb.1, hb.2.1, hb.2.2.1⟩ kc cc (tabN l l.length) j1 j2 gi j3
    clear i3 j1 j2 j3 gi
    generalize tabN l l.length = T at *
    generalize (findE T.K k).getD default = xx at *
    generalize stageE (findE T.K k) k.o = ss at *
    generalize (findE T.K k).isSome = bb at *
    simp (disch := omega) only [hc, hm, hn, hcmn, hb, List.cons_append, List.nil_append, ↓Ed, Eu, ↓reduceIte, reduceCtorEq, Nat.reduceAdd, Nat.reduceEqDiff, Nat.reduceLT, Nat.reduceLeDiff, Int.reduceToNat, Int.reduceEq, Int.reduceLT, Int.reduceLE, w64, List.length_append, List.length_map, Nat.mul_one, beq_self_eq_true, PktC.cs, EvC.cs, EntC.cs, KeyC.cs, st_nil, Int.reduceAdd, evl_len, evl_gt2]
    repeat' ((first | refine c3 (cG) ?_ | refine c1 (cD) ?_ | refine r3 (cS) ?_ | (refine Cro_det cT (lk_sub1 ?_) ?_; (focus (simp [lk, hc, hm, hn, hcmn, hb, *]; done))) | (refine Cro_det cM (LeL_ok ?_) ?_; (focus (simp [LeL, lk, hc, hm, hn, hcmn, hb, *]; done))) | refine NewB_intro0 (fun b => ?_) | (refine NewB_intro (fun b hb => ?_); simp only [ln_cons2, ln_nil, and_true] at hb) | (with_reducible apply wA; focus exact OM_a) | ((first | refine gW_sp ?_ | refine condW_sp ?_ | refine pickW_sp ?_); (try refine Sp_n ?_); (first | refine wT ?_ | refine wF ?_ | refine wL (fun h h' => ?_) (fun h h' => ?_) | refine wE (fun h h' => ?_) (fun h h' => ?_) | refine Sp_split (fun h => ?_) (fun h => ?_)) <;> (try (exfalso; omega))) | refine TreeW_intro (by rfl) ?_ | refine TreeW_all ?_ | refine upQ_intro ?_ | refine Two_intro ?_ ?_ | exact wK | exact wD | (simp only [Fact, Bool.not_eq_true', Bool.not_eq_false', decide_eq_true_eq, decide_eq_false_iff_not] at *; exact wD) | (show (_ : Nat) ≤ _; omega)) <;> (try simp (disch := omega) only [*, ↓Ed, Eu, ↓reduceIte, reduceCtorEq, Nat.reduceAdd, Nat.reduceEqDiff, Nat.reduceLT, Nat.reduceLeDiff, Int.reduceToNat, Int.reduceEq, Int.reduceLT, Int.reduceLE, w64, List.length_append, List.length_map, Nat.mul_one, beq_self_eq_true, PktC.cs, EvC.cs, EntC.cs, KeyC.cs, st_nil, Int.reduceAdd, evl_len, evl_gt2]))
  · obtain ⟨j1, j2, j3, j4⟩ := i2
    simp only at j1 j2 j3 j4
    have j5 : (¬ g = bk ∧ ¬ bk = g) ∧ (¬ g = c ∧ ¬ c = g) ∧ (¬ g = m ∧ ¬ m = g) ∧ ¬ g = n ∧ ¬ n = g := by simpa [awayL] using i3
    have cD := t_dGet1 b g j3 kc cc cap (tabN l l.length) j1 gi j4 k
    have cT := t_dStage1 b g j3 kc cc cap (tabN l l.length) j1 gi j4 k
    have cM := t_Same1 c m n b g hcmn ⟨hb.1, hb.2.1, hb.2.2.1⟩ ⟨j5.2.1, j5.2.2.1, j5.2.2.2, j3⟩ kc cc cap (tabN l l.length) j1 j2 gi j4
    clear i3 j1 j2 j4 gi
    generalize tabN l l.length = T at *
    generalize (findE T.K k).getD default = xx at *
    generalize stageE (findE T.K k) k.o = ss at *
    generalize (findE T.K k).isSome = bb at *
    simp (disch := omega) only [hc, hm, hn, hcmn, hb, j3, j5, List.cons_append, List.nil_append, ↓Ed, Eu, ↓reduceIte, reduceCtorEq, Nat.reduceAdd, Nat.reduceEqDiff, Nat.reduceLT, Nat.reduceLeDiff, Int.reduceToNat, Int.reduceEq, Int.reduceLT, Int.reduceLE, w64, List.length_append, List.length_map, Nat.mul_one, beq_self_eq_true, PktC.cs, EvC.cs, EntC.cs, KeyC.cs, st_nil, Int.reduceAdd, evl_len, evl_gt2]
    repeat' ((first | refine c3 (cG) ?_ | refine c2 (cD) ?_ | refine r3 (cS) ?_ | refine r2 (cT) ?_ | (refine Cro_det cM (LeL_ok ?_) ?_; (focus (simp [LeL, lk, hc, hm, hn, hcmn, hb, *]; done))) | refine NewB_intro0 (fun b => ?_) | (refine NewB_intro (fun b hb => ?_); simp only [ln_cons2, ln_nil, and_true] at hb) | (with_reducible apply wA; focus exact OM_a) | ((first | refine gW_sp ?_ | refine condW_sp ?_ | refine pickW_sp ?_); (try refine Sp_n ?_); (first | refine wT ?_ | refine wF ?_ | refine wL (fun h h' => ?_) (fun h h' => ?_) | refine wE (fun h h' => ?_) (fun h h' => ?_) | refine Sp_split (fun h => ?_) (fun h => ?_)) <;> (try (exfalso; omega))) | refine TreeW_intro (by rfl) ?_ | refine TreeW_all ?_ | refine upQ_intro ?_ | refine Two_intro ?_ ?_ | exact wK | exact wD | (simp only [Fact, Bool.not_eq_true', Bool.not_eq_false', decide_eq_true_eq, decide_eq_false_iff_not] at *; exact wD) | (show (_ : Nat) ≤ _; omega)) <;> (try simp (disch := omega) only [*, ↓Ed, Eu, ↓reduceIte, reduceCtorEq, Nat.reduceAdd, Nat.reduceEqDiff, Nat.reduceLT, Nat.reduceLeDiff, Int.reduceToNat, Int.reduceEq, Int.reduceLT, Int.reduceLE, w64, List.length_append, List.length_map, Nat.mul_one, beq_self_eq_true, PktC.cs, EvC.cs, EntC.cs, KeyC.cs, st_nil, Int.reduceAdd, evl_len, evl_gt2]))
end Go.Proofs.Ytobopbjedojebaa

/- chapter 22: LifeTwice -/
namespace Go.Proofs.Ytobopbjedojebaa
set_option linter.all false
open Go.RowKit Classical
set_option maxRecDepth 100000
/-- The second time. -/
theorem fold2 {t : Tb} (hN : (t.K.map (·.1)).Nodup) (e : EvC) :
    ((foldT t e).2 ≠ 0 ∧ foldT (foldT t e).1 e = ((foldT t e).1, (foldT t e).2)) ∨ ((foldT t e).2 = 0 ∧ e.k = 7 ∧ (foldT (foldT t e).1 e).1 = (foldT t e).1) ∨ ((foldT t e).2 = 0 ∧ e.k ≠ 7 ∧ foldT (foldT t e).1 e = ((foldT t e).1, 8)) := by
  by_cases h0 : (foldT t e).2 = 0
  · by_cases h7 : e.k = 7
    · refine .inr (.inl ⟨h0, h7, ?_⟩)
      rw [fold_7 h7, fold_7 h7]
    · exact .inr (.inr ⟨h0, h7, fold_twice hN h0 h7⟩)
  · refine .inl ⟨h0, ?_⟩
    have h1 := fold_bad h0
    rw [h1]
    exact Prod.ext h1 rfl
set_option maxHeartbeats 16000000 in
theorem p_LifeTwice (l : List EvC) (hl : l.length ≤ maxLen) : CP Try.prog 5 [.sl none 13 (evl l)] (.bool true) := by
  have hL := p_LightEs (.sl none 13 (evl l)) l rfl hl
  refine ok_liglaw22_LifeTwice _ _ (by simp) ?_
  by_cases h1 : lightEs l
  rotate_left
  · rw [decide_eq_false h1] at hL
    clear h1 hl
    simp only [c_liglaw22_LifeTwice, ↓Ed, Eu, ↓reduceIte, reduceCtorEq, Nat.reduceAdd, Nat.reduceEqDiff, Nat.reduceLT, Nat.reduceLeDiff, Int.reduceToNat, Int.reduceEq, Int.reduceLT, Int.reduceLE, w64, List.length_append, List.length_map, Nat.mul_one, beq_self_eq_true, PktC.cs, EvC.cs, EntC.cs, KeyC.cs, st_nil, Int.reduceAdd, evl_len, evl_gt2]
    repeat' ((first | refine CallO_pure (p_first) ?_ | refine CallO_pure (hL) ?_ | refine NewB_intro0 (fun b => ?_) | (refine NewB_intro (fun b hb => ?_); simp only [ln_cons2, ln_nil, and_true] at hb) | (with_reducible apply wA; focus exact OM_a) | ((first | refine gW_sp ?_ | refine condW_sp ?_ | refine pickW_sp ?_); (try refine Sp_n ?_); (first | refine wT ?_ | refine wF ?_ | refine wL (fun h h' => ?_) (fun h h' => ?_) | refine wE (fun h h' => ?_) (fun h h' => ?_) | refine Sp_split (fun h => ?_) (fun h => ?_)) <;> (try (exfalso; omega))) | refine TreeW_intro (by rfl) ?_ | refine TreeW_all ?_ | refine upQ_intro ?_ | refine Two_intro ?_ ?_ | exact wK | exact wD | (simp only [Fact, Bool.not_eq_true', Bool.not_eq_false', decide_eq_true_eq, decide_eq_false_iff_not] at *; exact wD) | (show (_ : Nat) ≤ _; omega)) <;> (try simp (disch := omega) only [*, ↓Ed, Eu, ↓reduceIte, reduceCtorEq, Nat.reduceAdd, Nat.reduceEqDiff, Nat.reduceLT, Nat.reduceLeDiff, Int.reduceToNat, Int.reduceEq, Int.reduceLT, Int.reduceLE, w64, List.length_append, List.length_map, Nat.mul_one, beq_self_eq_true, PktC.cs, EvC.cs, EntC.cs, KeyC.cs, st_nil, Int.reduceAdd, evl_len, evl_gt2]))
  rw [decide_eq_true h1] at hL
  clear hl
  have hG := tabN_good h1
  have hB := fun i hi => light_bd h1 (i := i) hi
  have hlen : l.length ≤ 60 := h1.1
  clear h1
  simp only [c_liglaw22_LifeTwice, ↓Ed, Eu, ↓reduceIte, reduceCtorEq, Nat.reduceAdd, Nat.reduceEqDiff, Nat.reduceLT, Nat.reduceLeDiff, Int.reduceToNat, Int.reduceEq, Int.reduceLT, Int.reduceLE, w64, List.length_append, List.length_map, Nat.mul_one, beq_self_eq_true, PktC.cs, EvC.cs, EntC.cs, KeyC.cs, st_nil, Int.reduceAdd, evl_len, evl_gt2]
  repeat' ((first | refine CallO_pure (p_first) ?_ | refine CallO_pure (hL) ?_ | (refine CallO_new3 (t_New3) (NewB3_intro (fun c m n hc hm hn hcmn => ?_)); simp only [ln_cons2, ln_nil, and_true] at hc hm hn) | refine NewB_intro0 (fun b => ?_) | (refine NewB_intro (fun b hb => ?_); simp only [ln_cons2, ln_nil, and_true] at hb) | (with_reducible apply wA; focus exact OM_a) | ((first | refine gW_sp ?_ | refine condW_sp ?_ | refine pickW_sp ?_); (try refine Sp_n ?_); (first | refine wT ?_ | refine wF ?_ | refine wL (fun h h' => ?_) (fun h h' => ?_) | refine wE (fun h h' => ?_) (fun h h' => ?_) | refine Sp_split (fun h => ?_) (fun h => ?_)) <;> (try (exfalso; omega))) | refine TreeW_intro (by rfl) ?_ | refine TreeW_all ?_ | refine upQ_intro ?_ | refine Two_intro ?_ ?_ | exact wK | exact wD | (simp only [Fact, Bool.not_eq_true', Bool.not_eq_false', decide_eq_true_eq, decide_eq_false_iff_not] at *; exact wD) | (show (_ : Nat) ≤ _; omega)) <;> (try simp (disch := omega) only [*, ↓Ed, Eu, ↓reduceIte, reduceCtorEq, Nat.reduceAdd, Nat.reduceEqDiff, Nat.reduceLT, Nat.reduceLeDiff, Int.reduceToNat, Int.reduceEq, Int.reduceLT, Int.reduceLE, w64, List.length_append, List.length_map, Nat.mul_one, beq_self_eq_true, PktC.cs, EvC.cs, EntC.cs, KeyC.cs, st_nil, Int.reduceAdd, evl_len, evl_gt2]))
  clear hL
  refine wpx_loop (fun z : Nat × Gx => ⟨lk [(0, .sl none 13 (evl l)), (3, .ptr c 0), (4, .ptr b 0), (5, .int .i64 (z.1 : Int))], lk (tabO c m n (tabN l z.1) ++ z.2.o b (tabN l z.1))⟩) (fun z => z.1 ≤ l.length ∧ z.2.ok b (tabN l z.1) ∧ awayL [c, m, n] z.2) (fun z => l.length - z.1) (0, .inl (.nils 52 4, .nils 23 2)) ⟨by omega, ⟨rfl, rfl, rfl⟩, trivial⟩ (Le_lit (by simp [LeL, lk, hcmn, hb, tabN_0])) ?_
  rintro ⟨i, x⟩ ⟨i1, i2, i3⟩
  by_cases hi : i < l.length
  · have f2 : Fact (decide ((i : Int) < l.length) = true) := by simp only [Fact, Bool.not_eq_true', Bool.not_eq_false', decide_eq_true_eq, decide_eq_false_iff_not]; omega
    have gi := hG i
    have gi2 := hG (i + 1)
    obtain ⟨b1, b2, b3, b4, b5⟩ := hB i hi
    have hT := tabN_s hi
    have hF := t_Fold c m n hcmn (tabN l i) (l.getD i default) gi.k b1 b2 b3 b4 b5
    have hF2 := t_Fold c m n hcmn (tabN l (i + 1)) (l.getD i default) gi2.k b1 b2 b3 b4 b5
    have h2 := fold2 gi.k (l.getD i default)
    rcases x with ⟨kc, cc⟩ | ⟨kc, cc, g, cap, X⟩
    · obtain ⟨j1, j2, j3⟩ := i2
      have hD := t_dFold0 b kc cc (tabN l i) j1 j2 gi j3 (l.getD i default) b1 b2 b3 b4 b5
      clear b1 b2 b3 b4 b5 hG hB gi j3 i3 j1 j2
      generalize hxi : l.getD i default = e at *
      rw [← hT] at hF hD h2
      clear hT
      generalize hTT : tabN l (i + 1) = T' at *
      generalize tabN l i = T at *
      generalize (foldT T e).2 = R at *
      generalize foldT T' e = S2 at *
      simp (disch := omega) only [hxi, hcmn, hb, List.cons_append, List.nil_append, ↓Ed, Eu, ↓reduceIte, reduceCtorEq, Nat.reduceAdd, Nat.reduceEqDiff, Nat.reduceLT, Nat.reduceLeDiff, Int.reduceToNat, Int.reduceEq, Int.reduceLT, Int.reduceLE, w64, List.length_append, List.length_map, Nat.mul_one, beq_self_eq_true, PktC.cs, EvC.cs, EntC.cs, KeyC.cs, st_nil, Int.reduceAdd, evl_len, evl_gt2]
      repeat' ((first | refine c3 (hF) ?_ | refine NewB_intro0 (fun b => ?_) | (refine NewB_intro (fun b hb => ?_); simp only [ln_cons2, ln_nil, and_true] at hb) | (with_reducible apply wA; focus exact OM_a) | ((first | refine gW_sp ?_ | refine condW_sp ?_ | refine pickW_sp ?_); (try refine Sp_n ?_); (first | refine wT ?_ | refine wF ?_ | refine wL (fun h h' => ?_) (fun h h' => ?_) | refine wE (fun h h' => ?_) (fun h h' => ?_) | refine Sp_split (fun h => ?_) (fun h => ?_)) <;> (try (exfalso; omega))) | refine TreeW_intro (by rfl) ?_ | refine TreeW_all ?_ | refine upQ_intro ?_ | refine Two_intro ?_ ?_ | exact wK | exact wD | (simp only [Fact, Bool.not_eq_true', Bool.not_eq_false', decide_eq_true_eq, decide_eq_false_iff_not] at *; exact wD) | (show (_ : Nat) ≤ _; omega)) <;> (try simp (disch := omega) only [*, ↓Ed, Eu, ↓reduceIte, reduceCtorEq, Nat.reduceAdd, Nat.reduceEqDiff, Nat.reduceLT, Nat.reduceLeDiff, Int.reduceToNat, Int.reduceEq, Int.reduceLT, Int.reduceLE, w64, List.length_append, List.length_map, Nat.mul_one, beq_self_eq_true, PktC.cs, EvC.cs, EntC.cs, KeyC.cs, st_nil, Int.reduceAdd, evl_len, evl_gt2]))
      refine CallO_ex hD (lk_sub1 (by simp [lk, hcmn, hb])) (fun y hy hf => ?_)
      rcases y with ⟨kc', cc'⟩ | y
      · clear hf
        obtain ⟨y1, y2, y3⟩ := id hy
        have cM := t_Same0 c m n b hcmn hb kc' cc' T' y1 y2 gi2 y3
        clear y1 y2 y3 gi2
        rcases h2 with ⟨q1, q2⟩ | ⟨q1, q2, q3⟩ | ⟨q1, q2, q3⟩
        · have a1 : Fact (decide (R = 0) = false) := by simp only [Fact, Bool.not_eq_true', Bool.not_eq_false', decide_eq_true_eq, decide_eq_false_iff_not]; exact q1
          rw [q2] at hF2
          clear q1 q2
          simp (disch := omega) only [hxi, hcmn, hb, ↓Ed, Eu, ↓reduceIte, reduceCtorEq, Nat.reduceAdd, Nat.reduceEqDiff, Nat.reduceLT, Nat.reduceLeDiff, Int.reduceToNat, Int.reduceEq, Int.reduceLT, Int.reduceLE, w64, List.length_append, List.length_map, Nat.mul_one, beq_self_eq_true, PktC.cs, EvC.cs, EntC.cs, KeyC.cs, st_nil, Int.reduceAdd, evl_len, evl_gt2]
          repeat' ((first | refine c3 (hF2) ?_ | (refine CallO_det cM (LeL_ok ?_) ?_; (focus (simp [LeL, lk, hcmn, hb, *]; done))) | refine NewB_intro0 (fun b => ?_) | (refine NewB_intro (fun b hb => ?_); simp only [ln_cons2, ln_nil, and_true] at hb) | (with_reducible apply wA; focus exact OM_a) | ((first | refine gW_sp ?_ | refine condW_sp ?_ | refine pickW_sp ?_); (try refine Sp_n ?_); (first | refine wT ?_ | refine wF ?_ | refine wL (fun h h' => ?_) (fun h h' => ?_) | refine wE (fun h h' => ?_) (fun h h' => ?_) | refine Sp_split (fun h => ?_) (fun h => ?_)) <;> (try (exfalso; omega))) | refine TreeW_intro (by rfl) ?_ | refine TreeW_all ?_ | refine upQ_intro ?_ | refine Two_intro ?_ ?_ | exact wK | exact wD | (simp only [Fact, Bool.not_eq_true', Bool.not_eq_false', decide_eq_true_eq, decide_eq_false_iff_not] at *; exact wD) | (show (_ : Nat) ≤ _; omega)) <;> (try simp (disch := omega) only [*, ↓Ed, Eu, ↓reduceIte, reduceCtorEq, Nat.reduceAdd, Nat.reduceEqDiff, Nat.reduceLT, Nat.reduceLeDiff, Int.reduceToNat, Int.reduceEq, Int.reduceLT, Int.reduceLE, w64, List.length_append, List.length_map, Nat.mul_one, beq_self_eq_true, PktC.cs, EvC.cs, EntC.cs, KeyC.cs, st_nil, Int.reduceAdd, evl_len, evl_gt2]))
          all_goals exact Round_lit (i + 1, .inl (kc', cc')) ⟨Le_lit (by simp [LeL, lk, ov, del, hcmn, hb, hTT]), ⟨by show i + 1 ≤ _; omega, by show Gx.ok _ _ (tabN l (i + 1)); rw [hTT]; exact hy, trivial⟩, by show l.length - (i + 1) < l.length - i; omega⟩
        · have a2 : Fact (decide (e.k = 7) = true) := by simp only [Fact, Bool.not_eq_true', Bool.not_eq_false', decide_eq_true_eq, decide_eq_false_iff_not]; exact q2
          rw [q1] at hF hD ⊢
          rw [show S2 = (T', S2.2) from Prod.ext q3 rfl] at hF2
          generalize S2.2 = R2 at hF2
          clear q1 q2 q3
          simp (disch := omega) only [hxi, hcmn, hb, ↓Ed, Eu, ↓reduceIte, reduceCtorEq, Nat.reduceAdd, Nat.reduceEqDiff, Nat.reduceLT, Nat.reduceLeDiff, Int.reduceToNat, Int.reduceEq, Int.reduceLT, Int.reduceLE, w64, List.length_append, List.length_map, Nat.mul_one, beq_self_eq_true, PktC.cs, EvC.cs, EntC.cs, KeyC.cs, st_nil, Int.reduceAdd, evl_len, evl_gt2]
          repeat' ((first | refine c3 (hF2) ?_ | (refine CallO_det cM (LeL_ok ?_) ?_; (focus (simp [LeL, lk, hcmn, hb, *]; done))) | refine NewB_intro0 (fun b => ?_) | (refine NewB_intro (fun b hb => ?_); simp only [ln_cons2, ln_nil, and_true] at hb) | (with_reducible apply wA; focus exact OM_a) | ((first | refine gW_sp ?_ | refine condW_sp ?_ | refine pickW_sp ?_); (try refine Sp_n ?_); (first | refine wT ?_ | refine wF ?_ | refine wL (fun h h' => ?_) (fun h h' => ?_) | refine wE (fun h h' => ?_) (fun h h' => ?_) | refine Sp_split (fun h => ?_) (fun h => ?_)) <;> (try (exfalso; omega))) | refine TreeW_intro (by rfl) ?_ | refine TreeW_all ?_ | refine upQ_intro ?_ | refine Two_intro ?_ ?_ | exact wK | exact wD | (simp only [Fact, Bool.not_eq_true', Bool.not_eq_false', decide_eq_true_eq, decide_eq_false_iff_not] at *; exact wD) | (show (_ : Nat) ≤ _; omega)) <;> (try simp (disch := omega) only [*, ↓Ed, Eu, ↓reduceIte, reduceCtorEq, Nat.reduceAdd, Nat.reduceEqDiff, Nat.reduceLT, Nat.reduceLeDiff, Int.reduceToNat, Int.reduceEq, Int.reduceLT, Int.reduceLE, w64, List.length_append, List.length_map, Nat.mul_one, beq_self_eq_true, PktC.cs, EvC.cs, EntC.cs, KeyC.cs, st_nil, Int.reduceAdd, evl_len, evl_gt2]))
          all_goals exact Round_lit (i + 1, .inl (kc', cc')) ⟨Le_lit (by simp [LeL, lk, ov, del, hcmn, hb, hTT]), ⟨by show i + 1 ≤ _; omega, by show Gx.ok _ _ (tabN l (i + 1)); rw [hTT]; exact hy, trivial⟩, by show l.length - (i + 1) < l.length - i; omega⟩
        · have a2 : Fact (decide (e.k = 7) = false) := by simp only [Fact, Bool.not_eq_true', Bool.not_eq_false', decide_eq_true_eq, decide_eq_false_iff_not]; exact q2
          rw [q1] at hF hD ⊢
          rw [q3] at hF2
          clear q1 q2 q3
          simp (disch := omega) only [hxi, hcmn, hb, ↓Ed, Eu, ↓reduceIte, reduceCtorEq, Nat.reduceAdd, Nat.reduceEqDiff, Nat.reduceLT, Nat.reduceLeDiff, Int.reduceToNat, Int.reduceEq, Int.reduceLT, Int.reduceLE, w64, List.length_append, List.length_map, Nat.mul_one, beq_self_eq_true, PktC.cs, EvC.cs, EntC.cs, KeyC.cs, st_nil, Int.reduceAdd, evl_len, evl_gt2]
          repeat' ((first | refine c3 (hF2) ?_ | (refine CallO_det cM (LeL_ok ?_) ?_; (focus (simp [LeL, lk, hcmn, hb, *]; done))) | refine NewB_intro0 (fun b => ?_) | (refine NewB_intro (fun b hb => ?_); simp only [ln_cons2, ln_nil, and_true] at hb) | (with_reducible apply wA; focus exact OM_a) | ((first | refine gW_sp ?_ | refine condW_sp ?_ | refine pickW_sp ?_); (try refine Sp_n ?_); (first | refine wT ?_ | refine wF ?_ | refine wL (fun h h' => ?_) (fun h h' => ?_) | refine wE (fun h h' => ?_) (fun h h' => ?_) | refine Sp_split (fun h => ?_) (fun h => ?_)) <;> (try (exfalso; omega))) | refine TreeW_intro (by rfl) ?_ | refine TreeW_all ?_ | refine upQ_intro ?_ | refine Two_intro ?_ ?_ | exact wK | exact wD | (simp only [Fact, Bool.not_eq_true', Bool.not_eq_false', decide_eq_true_eq, decide_eq_false_iff_not] at *; exact wD) | (show (_ : Nat) ≤ _; omega)) <;> (try simp (disch := omega) only [*, ↓Ed, Eu, ↓reduceIte, reduceCtorEq, Nat.reduceAdd, Nat.reduceEqDiff, Nat.reduceLT, Nat.reduceLeDiff, Int.reduceToNat, Int.reduceEq, Int.reduceLT, Int.reduceLE, w64, List.length_append, List.length_map, Nat.mul_one, beq_self_eq_true, PktC.cs, EvC.cs, EntC.cs, KeyC.cs, st_nil, Int.reduceAdd, evl_len, evl_gt2]))
          all_goals exact Round_lit (i + 1, .inl (kc', cc')) ⟨Le_lit (by simp [LeL, lk, ov, del, hcmn, hb, hTT]), ⟨by show i + 1 ≤ _; omega, by show Gx.ok _ _ (tabN l (i + 1)); rw [hTT]; exact hy, trivial⟩, by show l.length - (i + 1) < l.length - i; omega⟩
      · have hy' : Fx.ok y b T' := hy
        have hA := away_new (bs := [c, m, n]) hf (Fx.lkg' hy') (by simp [lk, hcmn, hb]) (fun h0 => absurd (by simpa [lk] using hy'.2.2.1.1) h0)
        have hA2 : (¬ y.g = c ∧ ¬ c = y.g) ∧ (¬ y.g = m ∧ ¬ m = y.g) ∧ ¬ y.g = n ∧ ¬ n = y.g := by simpa using hA
        obtain ⟨y1, y2, y3, y4⟩ := hy'
        have cM := t_Same1 c m n b y.g hcmn hb ⟨hA2.1, hA2.2.1, hA2.2.2, y3⟩ y.k y.c y.cap T' y1 y2 gi2 y4
        clear hf gi2
        rcases h2 with ⟨q1, q2⟩ | ⟨q1, q2, q3⟩ | ⟨q1, q2, q3⟩
        · have a1 : Fact (decide (R = 0) = false) := by simp only [Fact, Bool.not_eq_true', Bool.not_eq_false', decide_eq_true_eq, decide_eq_false_iff_not]; exact q1
          rw [q2] at hF2
          clear q1 q2
          simp (disch := omega) only [hxi, y3, hA2, hcmn, hb, ↓Ed, Eu, ↓reduceIte, reduceCtorEq, Nat.reduceAdd, Nat.reduceEqDiff, Nat.reduceLT, Nat.reduceLeDiff, Int.reduceToNat, Int.reduceEq, Int.reduceLT, Int.reduceLE, w64, List.length_append, List.length_map, Nat.mul_one, beq_self_eq_true, PktC.cs, EvC.cs, EntC.cs, KeyC.cs, st_nil, Int.reduceAdd, evl_len, evl_gt2]
          repeat' ((first | refine c3 (hF2) ?_ | (refine CallO_det cM (LeL_ok ?_) ?_; (focus (simp [LeL, lk, y3, hA2, hcmn, hb, *]; done))) | refine NewB_intro0 (fun b => ?_) | (refine NewB_intro (fun b hb => ?_); simp only [ln_cons2, ln_nil, and_true] at hb) | (with_reducible apply wA; focus exact OM_a) | ((first | refine gW_sp ?_ | refine condW_sp ?_ | refine pickW_sp ?_); (try refine Sp_n ?_); (first | refine wT ?_ | refine wF ?_ | refine wL (fun h h' => ?_) (fun h h' => ?_) | refine wE (fun h h' => ?_) (fun h h' => ?_) | refine Sp_split (fun h => ?_) (fun h => ?_)) <;> (try (exfalso; omega))) | refine TreeW_intro (by rfl) ?_ | refine TreeW_all ?_ | refine upQ_intro ?_ | refine Two_intro ?_ ?_ | exact wK | exact wD | (simp only [Fact, Bool.not_eq_true', Bool.not_eq_false', decide_eq_true_eq, decide_eq_false_iff_not] at *; exact wD) | (show (_ : Nat) ≤ _; omega)) <;> (try simp (disch := omega) only [*, ↓Ed, Eu, ↓reduceIte, reduceCtorEq, Nat.reduceAdd, Nat.reduceEqDiff, Nat.reduceLT, Nat.reduceLeDiff, Int.reduceToNat, Int.reduceEq, Int.reduceLT, Int.reduceLE, w64, List.length_append, List.length_map, Nat.mul_one, beq_self_eq_true, PktC.cs, EvC.cs, EntC.cs, KeyC.cs, st_nil, Int.reduceAdd, evl_len, evl_gt2]))
          all_goals exact Round_lit (i + 1, .inr y) ⟨Le_lit (by simp [LeL, lk, ov, del, y3, hA2, hcmn, hb, hTT]), ⟨by show i + 1 ≤ _; omega, by show Gx.ok _ _ (tabN l (i + 1)); rw [hTT]; exact hy, hA⟩, by show l.length - (i + 1) < l.length - i; omega⟩
        · have a2 : Fact (decide (e.k = 7) = true) := by simp only [Fact, Bool.not_eq_true', Bool.not_eq_false', decide_eq_true_eq, decide_eq_false_iff_not]; exact q2
          rw [q1] at hF hD ⊢
          rw [show S2 = (T', S2.2) from Prod.ext q3 rfl] at hF2
          generalize S2.2 = R2 at hF2
          clear q1 q2 q3
          simp (disch := omega) only [hxi, y3, hA2, hcmn, hb, ↓Ed, Eu, ↓reduceIte, reduceCtorEq, Nat.reduceAdd, Nat.reduceEqDiff, Nat.reduceLT, Nat.reduceLeDiff, Int.reduceToNat, Int.reduceEq, Int.reduceLT, Int.reduceLE, w64, List.length_append, List.length_map, Nat.mul_one, beq_self_eq_true, PktC.cs, EvC.cs, EntC.cs, KeyC.cs, st_nil, Int.reduceAdd, evl_len, evl_gt2]
          repeat' ((first | refine c3 (hF2) ?_ | (refine CallO_det cM (LeL_ok ?_) ?_; (focus (simp [LeL, lk, y3, hA2, hcmn, hb, *]; done))) | refine NewB_intro0 (fun b => ?_) | (refine NewB_intro (fun b hb => ?_); simp only [ln_cons2, ln_nil, and_true] at hb) | (with_reducible apply wA; focus exact OM_a) | ((first | refine gW_sp ?_ | refine condW_sp ?_ | refine pickW_sp ?_); (try refine Sp_n ?_); (first | refine wT ?_ | refine wF ?_ | refine wL (fun h h' => ?_) (fun h h' => ?_) | refine wE (fun h h' => ?_) (fun h h' => ?_) | refine Sp_split (fun h => ?_) (fun h => ?_)) <;> (try (exfalso; omega))) | refine TreeW_intro (by rfl) ?_ | refine TreeW_all ?_ | refine upQ_intro ?_ | refine Two_intro ?_ ?_ | exact wK | exact wD | (simp only [Fact, Bool.not_eq_true', Bool.not_eq_false', decide_eq_true_eq, decide_eq_false_iff_not] at *; exact wD) | (show (_ : Nat) ≤ _; omega)) <;> (try simp (disch := omega) only [*, ↓Ed, Eu, ↓reduceIte, reduceCtorEq, Nat.reduceAdd, Nat.reduceEqDiff, Nat.reduceLT, Nat.reduceLeDiff, Int.reduceToNat, Int.reduceEq, Int.reduceLT, Int.reduceLE, w64, List.length_append, List.length_map, Nat.mul_one, beq_self_eq_true, PktC.cs, EvC.cs, EntC.cs, KeyC.cs, st_nil, Int.reduceAdd, evl_len, evl_gt2]))
          all_goals exact Round_lit (i + 1, .inr y) ⟨Le_lit (by simp [LeL, lk, ov, del, y3, hA2, hcmn, hb, hTT]), ⟨by show i + 1 ≤ _; omega, by show Gx.ok _ _ (tabN l (i + 1)); rw [hTT]; exact hy, hA⟩, by show l.length - (i + 1) < l.length - i; omega⟩
        · have a2 : Fact (decide (e.k = 7) = false) := by simp only [Fact, Bool.not_eq_true', Bool.not_eq_false', decide_eq_true_eq, decide_eq_false_iff_not]; exact q2
          rw [q1] at hF hD ⊢
          rw [q3] at hF2
          clear q1 q2 q3
          simp (disch := omega) only [hxi, y3, hA2, hcmn, hb, ↓Ed, Eu, ↓reduceIte, reduceCtorEq, Nat.reduceAdd, Nat.reduceEqDiff, Nat.reduceLT, Nat.reduceLeDiff, Int.reduceToNat, Int.reduceEq, Int.reduceLT, Int.reduceLE, w64, List.length_append, List.length_map, Nat.mul_one, beq_self_eq_true, PktC.cs, EvC.cs, EntC.cs, KeyC.cs, st_nil, Int.reduceAdd, evl_len, evl_gt2]
          repeat' ((first | refine c3 (hF2) ?_ | (refine CallO_det cM (LeL_ok ?_) ?_; (focus (simp [LeL, lk, y3, hA2, hcmn, hb, *]; done))) | refine NewB_intro0 (fun b => ?_) | (refine NewB_intro (fun b hb => ?_); simp only [ln_cons2, ln_nil, and_true] at hb) | (with_reducible apply wA; focus exact OM_a) | ((first | refine gW_sp ?_ | refine condW_sp ?_ | refine pickW_sp ?_); (try refine Sp_n ?_); (first | refine wT ?_ | refine wF ?_ | refine wL (fun h h' => ?_) (fun h h' => ?_) | refine wE (fun h h' => ?_) (fun h h' => ?_) | refine Sp_split (fun h => ?_) (fun h => ?_)) <;> (try (exfalso; omega))) | refine TreeW_intro (by rfl) ?_ | refine TreeW_all ?_ | refine upQ_intro ?_ | refine Two_intro ?_ ?_ | exact wK | exact wD | (simp only [Fact, Bool.not_eq_true', Bool.not_eq_false', decide_eq_true_eq, decide_eq_false_iff_not] at *; exact wD) | (show (_ : Nat) ≤ _; omega)) <;> (try simp (disch := omega) only [*, ↓Ed, Eu, ↓reduceIte, reduceCtorEq, Nat.reduceAdd, Nat.reduceEqDiff, Nat.reduceLT, Nat.reduceLeDiff, Int.reduceToNat, Int.reduceEq, Int.reduceLT, Int.reduceLE, w64, List.length_append, List.length_map, Nat.mul_one, beq_self_eq_true, PktC.cs, EvC.cs, EntC.cs, KeyC.cs, st_nil, Int.reduceAdd, evl_len, evl_gt2]))
          all_goals exact Round_lit (i + 1, .inr y) ⟨Le_lit (by simp [LeL, lk, ov, del, y3, hA2, hcmn, hb, hTT]), ⟨by show i + 1 ≤ _; omega, by show Gx.ok _ _ (tabN l (i + 1)); rw [hTT]; exact hy, hA⟩, by show l.length - (i + 1) < l.length - i; omega⟩
    · obtain ⟨j1, j2, j3, j4⟩ := i2
      have j5 : (¬ g = c ∧ ¬ c = g) ∧ (¬ g = m ∧ ¬ m = g) ∧ ¬ g = n ∧ ¬ n = g := by simpa [awayL] using i3
      have hD := t_dFold1 b g j3 kc cc cap (tabN l i) j1 j2 gi j4 (l.getD i default) b1 b2 b3 b4 b5
      clear b1 b2 b3 b4 b5 hG hB gi j1 j2 j4
      generalize hxi : l.getD i default = e at *
      rw [← hT] at hF hD h2
      clear hT
      generalize hTT : tabN l (i + 1) = T' at *
      generalize tabN l i = T at *
      generalize (foldT T e).2 = R at *
      generalize foldT T' e = S2 at *
      simp only at j3
      simp (disch := omega) only [hxi, hcmn, hb, j3, j5, List.cons_append, List.nil_append, ↓Ed, Eu, ↓reduceIte, reduceCtorEq, Nat.reduceAdd, Nat.reduceEqDiff, Nat.reduceLT, Nat.reduceLeDiff, Int.reduceToNat, Int.reduceEq, Int.reduceLT, Int.reduceLE, w64, List.length_append, List.length_map, Nat.mul_one, beq_self_eq_true, PktC.cs, EvC.cs, EntC.cs, KeyC.cs, st_nil, Int.reduceAdd, evl_len, evl_gt2]
      repeat' ((first | refine c3 (hF) ?_ | refine NewB_intro0 (fun b => ?_) | (refine NewB_intro (fun b hb => ?_); simp only [ln_cons2, ln_nil, and_true] at hb) | (with_reducible apply wA; focus exact OM_a) | ((first | refine gW_sp ?_ | refine condW_sp ?_ | refine pickW_sp ?_); (try refine Sp_n ?_); (first | refine wT ?_ | refine wF ?_ | refine wL (fun h h' => ?_) (fun h h' => ?_) | refine wE (fun h h' => ?_) (fun h h' => ?_) | refine Sp_split (fun h => ?_) (fun h => ?_)) <;> (try (exfalso; omega))) | refine TreeW_intro (by rfl) ?_ | refine TreeW_all ?_ | refine upQ_intro ?_ | refine Two_intro ?_ ?_ | exact wK | exact wD | (simp only [Fact, Bool.not_eq_true', Bool.not_eq_false', decide_eq_true_eq, decide_eq_false_iff_not] at *; exact wD) | (show (_ : Nat) ≤ _; omega)) <;> (try simp (disch := omega) only [*, ↓Ed, Eu, ↓reduceIte, reduceCtorEq, Nat.reduceAdd, Nat.reduceEqDiff, Nat.reduceLT, Nat.reduceLeDiff, Int.reduceToNat, Int.reduceEq, Int.reduceLT, Int.reduceLE, w64, List.length_append, List.length_map, Nat.mul_one, beq_self_eq_true, PktC.cs, EvC.cs, EntC.cs, KeyC.cs, st_nil, Int.reduceAdd, evl_len, evl_gt2]))
      refine CallO_ex hD (lk_sub2 (by simp [lk, hcmn, hb, j3, j5]) (by simp [lk, hcmn, hb, j3, j5])) (fun y hy hf => ?_)
      have hA := away_new (bs := [c, m, n]) hf (Fx.lkg hy) (by simp [lk, hcmn, hb, j3, j5]) (fun h0 => by
        by_cases hgg : y.g = g
        · rw [hgg]; exact i3
        · exact absurd (by simp [lk, hy.2.2.1.1, hgg]) h0)
      have hA2 : (¬ y.g = c ∧ ¬ c = y.g) ∧ (¬ y.g = m ∧ ¬ m = y.g) ∧ ¬ y.g = n ∧ ¬ n = y.g := by simpa using hA
      obtain ⟨y1, y2, y3, y4⟩ := id hy
      have cM := t_Same1 c m n b y.g hcmn hb ⟨hA2.1, hA2.2.1, hA2.2.2, y3⟩ y.k y.c y.cap T' y1 y2 gi2 y4
      clear hf i3 gi2
      by_cases hgg : y.g = g
      · rcases h2 with ⟨q1, q2⟩ | ⟨q1, q2, q3⟩ | ⟨q1, q2, q3⟩
        · have a1 : Fact (decide (R = 0) = false) := by simp only [Fact, Bool.not_eq_true', Bool.not_eq_false', decide_eq_true_eq, decide_eq_false_iff_not]; exact q1
          rw [q2] at hF2
          clear q1 q2
          simp (disch := omega) only [hxi, hgg, j3, j5, hcmn, hb, ↓Ed, Eu, ↓reduceIte, reduceCtorEq, Nat.reduceAdd, Nat.reduceEqDiff, Nat.reduceLT, Nat.reduceLeDiff, Int.reduceToNat, Int.reduceEq, Int.reduceLT, Int.reduceLE, w64, List.length_append, List.length_map, Nat.mul_one, beq_self_eq_true, PktC.cs, EvC.cs, EntC.cs, KeyC.cs, st_nil, Int.reduceAdd, evl_len, evl_gt2]
          repeat' ((first | refine c3 (hF2) ?_ | (refine CallO_det cM (LeL_ok ?_) ?_; (focus (simp [LeL, lk, hgg, j3, j5, hcmn, hb, *]; done))) | refine NewB_intro0 (fun b => ?_) | (refine NewB_intro (fun b hb => ?_); simp only [ln_cons2, ln_nil, and_true] at hb) | (with_reducible apply wA; focus exact OM_a) | ((first | refine gW_sp ?_ | refine condW_sp ?_ | refine pickW_sp ?_); (try refine Sp_n ?_); (first | refine wT ?_ | refine wF ?_ | refine wL (fun h h' => ?_) (fun h h' => ?_) | refine wE (fun h h' => ?_) (fun h h' => ?_) | refine Sp_split (fun h => ?_) (fun h => ?_)) <;> (try (exfalso; omega))) | refine TreeW_intro (by rfl) ?_ | refine TreeW_all ?_ | refine upQ_intro ?_ | refine Two_intro ?_ ?_ | exact wK | exact wD | (simp only [Fact, Bool.not_eq_true', Bool.not_eq_false', decide_eq_true_eq, decide_eq_false_iff_not] at *; exact wD) | (show (_ : Nat) ≤ _; omega)) <;> (try simp (disch := omega) only [*, ↓Ed, Eu, ↓reduceIte, reduceCtorEq, Nat.reduceAdd, Nat.reduceEqDiff, Nat.reduceLT, Nat.reduceLeDiff, Int.reduceToNat, Int.reduceEq, Int.reduceLT, Int.reduceLE, w64, List.length_append, List.length_map, Nat.mul_one, beq_self_eq_true, PktC.cs, EvC.cs, EntC.cs, KeyC.cs, st_nil, Int.reduceAdd, evl_len, evl_gt2]))
          all_goals exact Round_lit (i + 1, .inr y) ⟨Le_lit (by simp [LeL, lk, ov, del, hgg, j3, j5, hcmn, hb, hTT]), ⟨by show i + 1 ≤ _; omega, by show Gx.ok _ _ (tabN l (i + 1)); rw [hTT]; exact hy, hA⟩, by show l.length - (i + 1) < l.length - i; omega⟩
        · have a2 : Fact (decide (e.k = 7) = true) := by simp only [Fact, Bool.not_eq_true', Bool.not_eq_false', decide_eq_true_eq, decide_eq_false_iff_not]; exact q2
          rw [q1] at hF hD ⊢
          rw [show S2 = (T', S2.2) from Prod.ext q3 rfl] at hF2
          generalize S2.2 = R2 at hF2
          clear q1 q2 q3
          simp (disch := omega) only [hxi, hgg, j3, j5, hcmn, hb, ↓Ed, Eu, ↓reduceIte, reduceCtorEq, Nat.reduceAdd, Nat.reduceEqDiff, Nat.reduceLT, Nat.reduceLeDiff, Int.reduceToNat, Int.reduceEq, Int.reduceLT, Int.reduceLE, w64, List.length_append, List.length_map, Nat.mul_one, beq_self_eq_true, PktC.cs, EvC.cs, EntC.cs, KeyC.cs, st_nil, Int.reduceAdd, evl_len, evl_gt2]
          repeat' ((first | refine c3 (hF2) ?_ | (refine CallO_det cM (LeL_ok ?_) ?_; (focus (simp [LeL, lk, hgg, j3, j5, hcmn, hb, *]; done))) | refine NewB_intro0 (fun b => ?_) | (refine NewB_intro (fun b hb => ?_); simp only [ln_cons2, ln_nil, and_true] at hb) | (with_reducible apply wA; focus exact OM_a) | ((first | refine gW_sp ?_ | refine condW_sp ?_ | refine pickW_sp ?_); (try refine Sp_n ?_); (first | refine wT ?_ | refine wF ?_ | refine wL (fun h h' => ?_) (fun h h' => ?_) | refine wE (fun h h' => ?_) (fun h h' => ?_) | refine Sp_split (fun h => ?_) (fun h => ?_)) <;> (try (exfalso; omega))) | refine TreeW_intro (by rfl) ?_ | refine TreeW_all ?_ | refine upQ_intro ?_ | refine Two_intro ?_ ?_ | exact wK | exact wD | (simp only [Fact, Bool.not_eq_true', Bool.not_eq_false', decide_eq_true_eq, decide_eq_false_iff_not] at *; exact wD) | (show (_ : Nat) ≤ _; omega)) <;> (try simp (disch := omega) only [*, ↓Ed, Eu, ↓reduceIte, reduceCtorEq, Nat.reduceAdd, Nat.reduceEqDiff, Nat.reduceLT, Nat.reduceLeDiff, Int.reduceToNat, Int.reduceEq, Int.reduceLT, Int.reduceLE, w64, List.length_append, List.length_map, Nat.mul_one, beq_self_eq_true, PktC.cs, EvC.cs, EntC.cs, KeyC.cs, st_nil, Int.reduceAdd, evl_len, evl_gt2]))
          all_goals exact Round_lit (i + 1, .inr y) ⟨Le_lit (by simp [LeL, lk, ov, del, hgg, j3, j5, hcmn, hb, hTT]), ⟨by show i + 1 ≤ _; omega, by show Gx.ok _ _ (tabN l (i + 1)); rw [hTT]; exact hy, hA⟩, by show l.length - (i + 1) < l.length - i; omega⟩
        · have a2 : Fact (decide (e.k = 7) = false) := by simp only [Fact, Bool.not_eq_true', Bool.not_eq_false', decide_eq_true_eq, decide_eq_false_iff_not]; exact q2
          rw [q1] at hF hD ⊢
          rw [q3] at hF2
          clear q1 q2 q3
          simp (disch := omega) only [hxi, hgg, j3, j5, hcmn, hb, ↓Ed, Eu, ↓reduceIte, reduceCtorEq, Nat.reduceAdd, Nat.reduceEqDiff, Nat.reduceLT, Nat.reduceLeDiff, Int.reduceToNat, Int.reduceEq, Int.reduceLT, Int.reduceLE, w64, List.length_append, List.length_map, Nat.mul_one, beq_self_eq_true, PktC.cs, EvC.cs, EntC.cs, KeyC.cs, st_nil, Int.reduceAdd, evl_len, evl_gt2]
          repeat' ((first | refine c3 (hF2) ?_ | (refine CallO_det cM (LeL_ok ?_) ?_; (focus (simp [LeL, lk, hgg, j3, j5, hcmn, hb, *]; done))) | refine NewB_intro0 (fun b => ?_) | (refine NewB_intro (fun b hb => ?_); simp only [ln_cons2, ln_nil, and_true] at hb) | (with_reducible apply wA; focus exact OM_a) | ((first | refine gW_sp ?_ | refine condW_sp ?_ | refine pickW_sp ?_); (try refine Sp_n ?_); (first | refine wT ?_ | refine wF ?_ | refine wL (fun h h' => ?_) (fun h h' => ?_) | refine wE (fun h h' => ?_) (fun h h' => ?_) | refine Sp_split (fun h => ?_) (fun h => ?_)) <;> (try (exfalso; omega))) | refine TreeW_intro (by rfl) ?_ | refine TreeW_all ?_ | refine upQ_intro ?_ | refine Two_intro ?_ ?_ | exact wK | exact wD | (simp only [Fact, Bool.not_eq_true', Bool.not_eq_false', decide_eq_true_eq, decide_eq_false_iff_not] at *; exact wD) | (show (_ : Nat) ≤ _; omega)) <;> (try simp (disch := omega) only [*, ↓Ed, Eu, ↓reduceIte, reduceCtorEq, Nat.reduceAdd, Nat.reduceEqDiff, Nat.reduceLT, Nat.reduceLeDiff, Int.reduceToNat, Int.reduceEq, Int.reduceLT, Int.reduceLE, w64, List.length_append, List.length_map, Nat.mul_one, beq_self_eq_true, PktC.cs, EvC.cs, EntC.cs, KeyC.cs, st_nil, Int.reduceAdd, evl_len, evl_gt2]))
          all_goals exact Round_lit (i + 1, .inr y) ⟨Le_lit (by simp [LeL, lk, ov, del, hgg, j3, j5, hcmn, hb, hTT]), ⟨by show i + 1 ≤ _; omega, by show Gx.ok _ _ (tabN l (i + 1)); rw [hTT]; exact hy, hA⟩, by show l.length - (i + 1) < l.length - i; omega⟩
      · have hgg' : ¬ g = y.g := fun e => hgg e.symm
        rcases h2 with ⟨q1, q2⟩ | ⟨q1, q2, q3⟩ | ⟨q1, q2, q3⟩
        · have a1 : Fact (decide (R = 0) = false) := by simp only [Fact, Bool.not_eq_true', Bool.not_eq_false', decide_eq_true_eq, decide_eq_false_iff_not]; exact q1
          rw [q2] at hF2
          clear q1 q2
          simp (disch := omega) only [hxi, hgg, hgg', y3, hA2, j3, j5, hcmn, hb, ↓Ed, Eu, ↓reduceIte, reduceCtorEq, Nat.reduceAdd, Nat.reduceEqDiff, Nat.reduceLT, Nat.reduceLeDiff, Int.reduceToNat, Int.reduceEq, Int.reduceLT, Int.reduceLE, w64, List.length_append, List.length_map, Nat.mul_one, beq_self_eq_true, PktC.cs, EvC.cs, EntC.cs, KeyC.cs, st_nil, Int.reduceAdd, evl_len, evl_gt2]
          repeat' ((first | refine c3 (hF2) ?_ | (refine CallO_det cM (LeL_ok ?_) ?_; (focus (simp [LeL, lk, hgg, hgg', y3, hA2, j3, j5, hcmn, hb, *]; done))) | refine NewB_intro0 (fun b => ?_) | (refine NewB_intro (fun b hb => ?_); simp only [ln_cons2, ln_nil, and_true] at hb) | (with_reducible apply wA; focus exact OM_a) | ((first | refine gW_sp ?_ | refine condW_sp ?_ | refine pickW_sp ?_); (try refine Sp_n ?_); (first | refine wT ?_ | refine wF ?_ | refine wL (fun h h' => ?_) (fun h h' => ?_) | refine wE (fun h h' => ?_) (fun h h' => ?_) | refine Sp_split (fun h => ?_) (fun h => ?_)) <;> (try (exfalso; omega))) | refine TreeW_intro (by rfl) ?_ | refine TreeW_all ?_ | refine upQ_intro ?_ | refine Two_intro ?_ ?_ | exact wK | exact wD | (simp only [Fact, Bool.not_eq_true', Bool.not_eq_false', decide_eq_true_eq, decide_eq_false_iff_not] at *; exact wD) | (show (_ : Nat) ≤ _; omega)) <;> (try simp (disch := omega) only [*, ↓Ed, Eu, ↓reduceIte, reduceCtorEq, Nat.reduceAdd, Nat.reduceEqDiff, Nat.reduceLT, Nat.reduceLeDiff, Int.reduceToNat, Int.reduceEq, Int.reduceLT, Int.reduceLE, w64, List.length_append, List.length_map, Nat.mul_one, beq_self_eq_true, PktC.cs, EvC.cs, EntC.cs, KeyC.cs, st_nil, Int.reduceAdd, evl_len, evl_gt2]))
          all_goals exact Round_lit (i + 1, .inr y) ⟨Le_lit (by simp [LeL, lk, ov, del, hgg, hgg', y3, hA2, j3, j5, hcmn, hb, hTT]), ⟨by show i + 1 ≤ _; omega, by show Gx.ok _ _ (tabN l (i + 1)); rw [hTT]; exact hy, hA⟩, by show l.length - (i + 1) < l.length - i; omega⟩
        · have a2 : Fact (decide (e.k = 7) = true) := by simp only [Fact, Bool.not_eq_true', Bool.not_eq_false', decide_eq_true_eq, decide_eq_false_iff_not]; exact q2
          rw [q1] at hF hD ⊢
          rw [show S2 = (T', S2.2) from Prod.ext q3 rfl] at hF2
          generalize S2.2 = R2 at hF2
          clear q1 q2 q3
          simp (disch := omega) only [hxi, hgg, hgg', y3, hA2, j3, j5, hcmn, hb, ↓Ed, Eu, ↓reduceIte, reduceCtorEq, Nat.reduceAdd, Nat.reduceEqDiff, Nat.reduceLT, Nat.reduceLeDiff, Int.reduceToNat, Int.reduceEq, Int.reduceLT, Int.reduceLE, w64, List.length_append, List.length_map, Nat.mul_one, beq_self_eq_true, PktC.cs, EvC.cs, EntC.cs, KeyC.cs, st_nil, Int.reduceAdd, evl_len, evl_gt2]
          repeat' ((first | refine c3 (hF2) ?_ | (refine CallO_det cM (LeL_ok ?_) ?_; (focus (simp [LeL, lk, hgg, hgg', y3, hA2, j3, j5, hcmn, hb, *]; done))) | refine NewB_intro0 (fun b => ?_) | (refine NewB_intro (fun b hb => ?_); simp only [ln_cons2, ln_nil, and_true] at hb) | (with_reducible apply wA; focus exact OM_a) | ((first | refine gW_sp ?_ | refine condW_sp ?_ | refine pickW_sp ?_); (try refine Sp_n ?_); (first | refine wT ?_ | refine wF ?_ | refine wL (fun h h' => ?_) (fun h h' => ?_) | refine wE (fun h h' => ?_) (fun h h' => ?_) | refine Sp_split (fun h => ?_) (fun h => ?_)) <;> (try (exfalso; omega))) | refine TreeW_intro (by rfl) ?_ | refine TreeW_all ?_ | refine upQ_intro ?_ | refine Two_intro ?_ ?_ | exact wK | exact wD | (simp only [Fact, Bool.not_eq_true', Bool.not_eq_false', decide_eq_true_eq, decide_eq_false_iff_not] at *; exact wD) | (show (_ : Nat) ≤ _; omega)) <;> (try simp (disch := omega) only [*, ↓Ed, Eu, ↓reduceIte, reduceCtorEq, Nat.reduceAdd, Nat.reduceEqDiff, Nat.reduceLT, Nat.reduceLeDiff, Int.reduceToNat, Int.reduceEq, Int.reduceLT, Int.reduceLE, w64, List.length_append, List.length_map, Nat.mul_one, beq_self_eq_true, PktC.cs, EvC.cs, EntC.cs, KeyC.cs, st_nil, Int.reduceAdd, evl_len, evl_gt2]))
          all_goals exact Round_lit (i + 1, .inr y) ⟨Le_lit (by simp [LeL, lk, ov, del, hgg, hgg', y3, hA2, j3, j5, hcmn, hb, hTT]), ⟨by show i + 1 ≤ _; omega, by show Gx.ok _ _ (tabN l (i + 1)); rw [hTT]; exact hy, hA⟩, by show l.length - (i + 1) < l.length - i; omega⟩
        · have a2 : Fact (decide (e.k = 7) = false) := by simp only [Fact, Bool.not_eq_true', Bool.not_eq_false', decide_eq_true_eq, decide_eq_false_iff_not]; exact q2
          rw [q1] at hF hD ⊢
          rw [q3] at hF2
          clear q1 q2 q3
          simp (disch := omega) only [hxi, hgg, hgg', y3, hA2, j3, j5, hcmn, hb, ↓Ed, Eu, ↓reduceIte, reduceCtorEq, Nat.reduceAdd, Nat.reduceEqDiff, Nat.reduceLT, Nat.reduceLeDiff, Int.reduceToNat, Int.reduceEq, Int.reduceLT, Int.reduceLE, w64, List.length_append, List.length_map, Nat.mul_one, beq_self_eq_true, PktC.cs, EvC.cs, EntC.cs, KeyC.cs, st_nil, Int.reduceAdd, evl_len, evl_gt2]
          repeat' ((first | refine c3 (hF2) ?_ | (refine CallO_det cM (LeL_ok ?_) ?_; (focus (simp [LeL, lk, hgg, hgg', y3, hA2, j3, j5, hcmn, hb, *]; done))) | refine NewB_intro0 (fun b => ?_) | (refine NewB_intro (fun b hb => ?_); simp only [ln_cons2, ln_nil, and_true] at hb) | (with_reducible apply wA; focus exact OM_a) | ((first | refine gW_sp ?_ | refine condW_sp ?_ | refine pickW_sp ?_); (try refine Sp_n ?_); (first | refine wT ?_ | refine wF ?_ | refine wL (fun h h' => ?_) (fun h h' => ?_) | refine wE (fun h h' => ?_) (fun h h' => ?_) | refine Sp_split (fun h => ?_) (fun h => ?_)) <;> (try (exfalso; omega))) | refine TreeW_intro (by rfl) ?_ | refine TreeW_all ?_ | refine upQ_intro ?_ | refine Two_intro ?_ ?_ | exact wK | exact wD | (simp only [Fact, Bool.not_eq_true', Bool.not_eq_false', decide_eq_true_eq, decide_eq_false_iff_not] at *; exact wD) | (show (_ : Nat) ≤ _; omega)) <;> (try simp (disch := omega) only [*, ↓Ed, Eu, ↓reduceIte, reduceCtorEq, Nat.reduceAdd, Nat.reduceEqDiff, Nat.reduceLT, Nat.reduceLeDiff, Int.reduceToNat, Int.reduceEq, Int.reduceLT, Int.reduceLE, w64, List.length_append, List.length_map, Nat.mul_one, beq_self_eq_true, PktC.cs, EvC.cs, EntC.cs, KeyC.cs, st_nil, Int.reduceAdd, evl_len, evl_gt2]))
          all_goals exact Round_lit (i + 1, .inr y) ⟨Le_lit (by simp [LeL, lk, ov, del, hgg, hgg', y3, hA2, j3, j5, hcmn, hb, hTT]), ⟨by show i + 1 ≤ _; omega, by show Gx.ok _ _ (tabN l (i + 1)); rw [hTT]; exact hy, hA⟩, by show l.length - (i + 1) < l.length - i; omega⟩
  have hie : i = l.length := by
    have : i ≤ l.length := i1
    omega
  subst hie
  have f2 : Fact (decide ((l.length : Int) < l.length) = false) := by simp only [Fact, Bool.not_eq_true', Bool.not_eq_false', decide_eq_true_eq, decide_eq_false_iff_not]; omega
  have gi := hG l.length
  clear hG hB
  rcases x with ⟨kc, cc⟩ | ⟨kc, cc, g, cap, X⟩
  · obtain ⟨j1, j2, j3⟩ := i2
    have cM := t_Same0 c m n b hcmn hb kc cc (tabN l l.length) j1 j2 gi j3
    clear i3 j1 j2 j3 gi
    generalize tabN l l.length = T at *
    simp (disch := omega) only [hcmn, hb, List.cons_append, List.nil_append, ↓Ed, Eu, ↓reduceIte, reduceCtorEq, Nat.reduceAdd, Nat.reduceEqDiff, Nat.reduceLT, Nat.reduceLeDiff, Int.reduceToNat, Int.reduceEq, Int.reduceLT, Int.reduceLE, w64, List.length_append, List.length_map, Nat.mul_one, beq_self_eq_true, PktC.cs, EvC.cs, EntC.cs, KeyC.cs, st_nil, Int.reduceAdd, evl_len, evl_gt2]
    repeat' ((first | (refine CallO_det cM (LeL_ok ?_) ?_; (focus (simp [LeL, lk, hcmn, hb, *]; done))) | refine NewB_intro0 (fun b => ?_) | (refine NewB_intro (fun b hb => ?_); simp only [ln_cons2, ln_nil, and_true] at hb) | (with_reducible apply wA; focus exact OM_a) | ((first | refine gW_sp ?_ | refine condW_sp ?_ | refine pickW_sp ?_); (try refine Sp_n ?_); (first | refine wT ?_ | refine wF ?_ | refine wL (fun h h' => ?_) (fun h h' => ?_) | refine wE (fun h h' => ?_) (fun h h' => ?_) | refine Sp_split (fun h => ?_) (fun h => ?_)) <;> (try (exfalso; omega))) | refine TreeW_intro (by rfl) ?_ | refine TreeW_all ?_ | refine upQ_intro ?_ | refine Two_intro ?_ ?_ | exact wK | exact wD | (simp only [Fact, Bool.not_eq_true', Bool.not_eq_false', decide_eq_true_eq, decide_eq_false_iff_not] at *; exact wD) | (show (_ : Nat) ≤ _; omega)) <;> (try simp (disch := omega) only [*, ↓Ed, Eu, ↓reduceIte, reduceCtorEq, Nat.reduceAdd, Nat.reduceEqDiff, Nat.reduceLT, Nat.reduceLeDiff, Int.reduceToNat, Int.reduceEq, Int.reduceLT, Int.reduceLE, w64, List.length_append, List.length_map, Nat.mul_one, beq_self_eq_true, PktC.cs, EvC.cs, EntC.cs, KeyC.cs, st_nil, Int.reduceAdd, evl_len, evl_gt2]))
  · obtain ⟨j1, j2, j3, j4⟩ := i2
    simp only at j1 j2 j3 j4
    have j5 : (¬ g = c ∧ ¬ c = g) ∧ (¬ g = m ∧ ¬ m = g) ∧ ¬ g = n ∧ ¬ n = g := by simpa [awayL] using i3
    have cM := t_Same1 c m n b g hcmn hb ⟨j5.1, j5.2.1, j5.2.2, j3⟩ kc cc cap (tabN l l.length) j1 j2 gi j4
    clear i3 j1 j2 j4 gi
    generalize tabN l l.length = T at *
    simp (disch := omega) only [hcmn, hb, j3, j5, List.cons_append, List.nil_append, ↓Ed, Eu, ↓reduceIte, reduceCtorEq, Nat.reduceAdd, Nat.reduceEqDiff, Nat.reduceLT, Nat.reduceLeDiff, Int.reduceToNat, Int.reduceEq, Int.reduceLT, Int.reduceLE, w64, List.length_append, List.length_map, Nat.mul_one, beq_self_eq_true, PktC.cs, EvC.cs, EntC.cs, KeyC.cs, st_nil, Int.reduceAdd, evl_len, evl_gt2]
    repeat' ((first | (refine CallO_det cM (LeL_ok ?_) ?_; (focus (simp [LeL, lk, hcmn, hb, *]; done))) | refine NewB_intro0 (fun b => ?_) | (refine NewB_intro (fun b hb => ?_); simp only [ln_cons2, ln_nil, and_true] at hb) | (with_reducible apply wA; focus exact OM_a) | ((first | refine gW_sp ?_ | refine condW_sp ?_ | refine pickW_sp ?_); (try refine Sp_n ?_); (first | refine wT ?_ | refine wF ?_ | refine wL (fun h h' => ?_) (fun h h' => ?_) | refine wE (fun h h' => ?_) (fun h h' => ?_) | refine Sp_split (fun h => ?_) (fun h => ?_)) <;> (try (exfalso; omega))) | refine TreeW_intro (by rfl) ?_ | refine TreeW_all ?_ | refine upQ_intro ?_ | refine Two_intro ?_ ?_ | exact wK | exact wD | (simp only [Fact, Bool.not_eq_true', Bool.not_eq_false', decide_eq_true_eq, decide_eq_false_iff_not] at *; exact wD) | (show (_ : Nat) ≤ _; omega)) <;> (try simp (disch := omega) only [*, ↓Ed, Eu, ↓reduceIte, reduceCtorEq, Nat.reduceAdd, Nat.reduceEqDiff, Nat.reduceLT, Nat.reduceLeDiff, Int.reduceToNat, Int.reduceEq, Int.reduceLT, Int.reduceLE, w64, List.length_append, List.length_map, Nat.mul_one, beq_self_eq_true, PktC.cs, EvC.cs, EntC.cs, KeyC.cs, st_nil, Int.reduceAdd, evl_len, evl_gt2]))
end Go.Proofs.Ytobopbjedojebaa
