import Derived.Test.YtfkkjhnbbimcaaaDoorK13
/- chapter 32: the document's act of a line: no act, commit, round, turn -/
namespace Go.Proofs.YtfkkjhnbbimcaaaDoor
set_option linter.all false
open Go.RowKit
set_option maxRecDepth 100000
theorem ne78 : (([97] : List UInt8) = [98]) = False := by simp
theorem ne87 : (([98] : List UInt8) = [97]) = False := by simp
theorem cn4 : ((4 : Nat) : Int) = 4 := rfl
theorem cn5 : ((5 : Nat) : Int) = 5 := rfl
theorem cn6 : ((6 : Nat) : Int) = 6 := rfl
def want (k : Int) : Nat := if k = 1 then 6 else if k = 2 then 3 else if k = 3 then 2 else if k = 4 then 3 else 1
def hexOk (s : List UInt8) : Prop := s = [45] ∨ (frB s = true ∧ ¬ s = [])
/-- What the document asks of a line's words before it looks at the act. -/
structure DocOk (w : List (List UInt8)) : Prop where
  k : kindA (w.getD 0 []) ≠ 0
  l : w.length = want (kindA (w.getD 0 []))
  s : 1 < w.length → w.getD 1 [] = [97] ∨ w.getD 1 [] = [98]
  n1 : kindA (w.getD 0 []) = 1 → (numP (w.getD 2 [])).2 = 0 ∧ (numP (w.getD 3 [])).2 = 0 ∧ (numP (w.getD 4 [])).2 = 0
  n2 : kindA (w.getD 0 []) = 2 → (numP (w.getD 2 [])).2 = 0
  x1 : kindA (w.getD 0 []) = 1 → hexOk (w.getD 5 [])
  x4 : kindA (w.getD 0 []) = 4 → hexOk (w.getD 2 [])
theorem kind_rng (t : List UInt8) : kindA t = 0 ∨ kindA t = 1 ∨ kindA t = 2 ∨ kindA t = 3 ∨ kindA t = 4 ∨ kindA t = 5 ∨ kindA t = 6 := by
  unfold kindA
  split; simp; split; simp; split; simp; split; simp; split; simp; split <;> simp
theorem num_rng {s : List UInt8} (h : (numP s).2 = 0) : rngN (numP s).1 := by
  unfold numP at h ⊢
  unfold rngN
  split
  · rename_i g; rw [if_pos g] at h; cases h
  · rename_i g; rw [if_neg g] at h
    split
    · rename_i g2; rw [if_pos g2] at h; cases h
    · rename_i g2; rw [if_neg g2] at h
      split
      · rename_i g3; rw [if_pos g3] at h; cases h
      · rename_i g3; rw [if_neg g3] at h
        split
        · rename_i g4; rw [if_pos g4] at h; cases h
        · simp only; omega
theorem may1 {s a b c : Int} {d : List UInt8} (hs : s = 0 ∨ s = 1) (h1 : rngN a) (h2 : rngN b) (h3 : rngN c) : mayA ⟨1, s, a, b, c, d⟩ = true :=
  mayA_t ⟨by simp, by simp, by simp [plainA], by rcases hs with rfl | rfl <;> simp, by rcases hs with rfl | rfl <;> simp, h1, h2, h3⟩
theorem may2 {s n : Int} (hs : s = 0 ∨ s = 1) (h : rngN n) : mayA ⟨2, s, 0, n, 0, []⟩ = true :=
  mayA_t ⟨by simp, by simp, by simp [plainA], by rcases hs with rfl | rfl <;> simp, by rcases hs with rfl | rfl <;> simp, by unfold rngN; simp, h, by unfold rngN; simp⟩
theorem may4 {s : Int} {d : List UInt8} (hs : s = 0 ∨ s = 1) : mayA ⟨4, s, 0, 0, 0, d⟩ = true :=
  mayA_t ⟨by simp, by simp, by simp [plainA], by rcases hs with rfl | rfl <;> simp, by rcases hs with rfl | rfl <;> simp, by unfold rngN; simp, by unfold rngN; simp, by unfold rngN; simp⟩
/-- The reading. -/
def ActR (t : List UInt8) (r : AV) : Prop :=
  (¬ DocOk (spx 32 t) → r = .tup [.agg Act.zero.cs, .bool false]) ∧ (DocOk (spx 32 t) → r = .tup [.agg (readA (spx 32 t)).cs, .bool (mayA (readA (spx 32 t)) && decide (lineA (readA (spx 32 t)) = t ++ [10]))])
theorem unh_getlen (s : List UInt8) : ((unh s).getD []).length ≤ s.length := by
  cases h : unh s with
  | none => simp
  | some o => simpa using unh_len h
set_option maxHeartbeats 16000000 in
theorem p_act0 (t : List UInt8) (ht : t.length ≤ 8000000) (r : AV) (hr : ActR t r) (hK : kindA ((spx 32 t).getD 0 []) = 0) : CP Tryd.prog 43 [.str t] r := by
  obtain ⟨hN, hY⟩ := hr
  have hw0 := spx_pos 32 t
  have hbb := fun i => Nat.le_trans (spx_getlen 32 t i) ht
  have hpw := p_words t ht
  generalize spx 32 t = w at *
  have hnum := fun i => p_rNumber (w.getD i []) (Nat.le_trans (hbb i) (by omega))
  have hfx := fun i => p_FromHex (w.getD i []) (hbb i)
  refine ok_ligref30_act _ _ (by simp) ?_
  simp only [c_ligref30_act, ↓Ed, Eu, ↓reduceIte, reduceCtorEq, Nat.reduceAdd, Nat.reduceEqDiff, Nat.reduceLT, Nat.reduceLeDiff, Int.reduceToNat, Int.reduceEq, Int.reduceLT, Int.reduceLE, w64, List.length_append, List.length_map, Nat.mul_one, List.append_assoc, Act.cs, or_self, List.getD_cons_zero, List.getD_cons_succ, gdS, cn0, cn1, cn2, cn3, cn4, cn5, cn6, Nat.reduceMul, Int.reduceAdd, Int.reduceSub, mn_int, Bool.true_and, ne78, ne87]
  repeat' ((first | refine CallO_pure (hpw) ?_ | refine NewB_intro0 (fun b => ?_) | (refine NewB_intro (fun b hb => ?_); simp only [ln_cons2, ln_nil, and_true] at hb) | (with_reducible apply And.intro; (focus (first | omega | (simp only [Fact, Bool.not_eq_true', Bool.not_eq_false', decide_eq_true_eq, decide_eq_false_iff_not] at *; omega)))) | ((first | refine gW_sp ?_ | refine condW_sp ?_ | refine pickW_sp ?_); (try refine Sp_n ?_); (first | refine Sp_t (by assumption) ?_ | refine Sp_f (by assumption) ?_ | refine Sp_split (fun h => ?_) (fun h => ?_)) <;> (first | have h' := Fact_lt h | have h' := Fact_nlt h | have h' := Fact_le h | have h' := Fact_nle h | skip) <;> (try (exfalso; omega))) | refine TreeW_intro (by rfl) ?_ | refine Two_intro ?_ ?_ | exact leK_lit (by simp [LeL, lk, *]) | (show (_ : Nat) ≤ _; omega)) <;> (try simp (disch := omega) only [*, ↓Ed, Eu, ↓reduceIte, reduceCtorEq, Nat.reduceAdd, Nat.reduceEqDiff, Nat.reduceLT, Nat.reduceLeDiff, Int.reduceToNat, Int.reduceEq, Int.reduceLT, Int.reduceLE, w64, List.length_append, List.length_map, Nat.mul_one, List.append_assoc, Act.cs, or_self, List.getD_cons_zero, List.getD_cons_succ, gdS, cn0, cn1, cn2, cn3, cn4, cn5, cn6, Nat.reduceMul, Int.reduceAdd, Int.reduceSub, mn_int, Bool.true_and, ne78, ne87]))
  rename_i d
  obtain ⟨e, hee⟩ : ∃ e, e = b := ⟨b, rfl⟩
  subst hee
  rename _ ∧ _ => he
  refine wpx_loop (fun k : Nat => ⟨lk [(0, .str t), (2, .ptr d 0), (3, .bool false), (4, .sl (some 9) 1 (strs w)), (5, .ptr e 0), (6, .sl (some 9) 1 [[.str []], [.str (wd 1)], [.str (wd 2)], [.str (wd 3)], [.str (wd 4)], [.str (wd 5)], [.str (wd 6)]]), (7, .int .i64 ((k : Int) + 1))], lk [(d, [.int .i64 0, .int .i64 0, .int .i64 0, .int .i64 0, .int .i64 0, .str []]), (e, [.int .i64 (kindU (w.getD 0 []) k), .int .i64 0, .int .i64 0, .int .i64 0, .int .i64 0, .str []])]⟩) (fun k => k ≤ 6) (fun k => 6 - k) 0 (by omega) (Le_lit (by simp [LeL, lk, kindU, he, wd])) ?_
  intro k hk
  have hk7 : k = 0 ∨ k = 1 ∨ k = 2 ∨ k = 3 ∨ k = 4 ∨ k = 5 ∨ k = 6 := by omega
  rcases hk7 with rfl | rfl | rfl | rfl | rfl | rfl | rfl
  case inr.inr.inr.inr.inr.inr =>
    clear hk hbb hpw
    have hk6 : kindU (w.getD 0 []) 6 = 0 := by rw [kindU6]; exact hK
    obtain rfl := hN (fun g => g.k hK)
    clear hN hY
    simp (disch := omega) only [hk6, he.1, he.2, ↓Ed, Eu, ↓reduceIte, reduceCtorEq, Nat.reduceAdd, Nat.reduceEqDiff, Nat.reduceLT, Nat.reduceLeDiff, Int.reduceToNat, Int.reduceEq, Int.reduceLT, Int.reduceLE, w64, List.length_append, List.length_map, Nat.mul_one, List.append_assoc, Act.cs, or_self, List.getD_cons_zero, List.getD_cons_succ, gdS, cn0, cn1, cn2, cn3, cn4, cn5, cn6, Nat.reduceMul, Int.reduceAdd, Int.reduceSub, mn_int, Bool.true_and, ne78, ne87]
    repeat' ((first | refine NewB_intro0 (fun b => ?_) | (refine NewB_intro (fun b hb => ?_); simp only [ln_cons2, ln_nil, and_true] at hb) | (with_reducible apply And.intro; (focus (first | omega | (simp only [Fact, Bool.not_eq_true', Bool.not_eq_false', decide_eq_true_eq, decide_eq_false_iff_not] at *; omega)))) | ((first | refine gW_sp ?_ | refine condW_sp ?_ | refine pickW_sp ?_); (try refine Sp_n ?_); (first | refine Sp_t (by assumption) ?_ | refine Sp_f (by assumption) ?_ | refine Sp_split (fun h => ?_) (fun h => ?_)) <;> (first | have h' := Fact_lt h | have h' := Fact_nlt h | have h' := Fact_le h | have h' := Fact_nle h | skip) <;> (try (exfalso; omega))) | refine TreeW_intro (by rfl) ?_ | refine Two_intro ?_ ?_ | exact leK_lit (by simp [LeL, lk, *]) | (show (_ : Nat) ≤ _; omega)) <;> (try simp (disch := omega) only [*, ↓Ed, Eu, ↓reduceIte, reduceCtorEq, Nat.reduceAdd, Nat.reduceEqDiff, Nat.reduceLT, Nat.reduceLeDiff, Int.reduceToNat, Int.reduceEq, Int.reduceLT, Int.reduceLE, w64, List.length_append, List.length_map, Nat.mul_one, List.append_assoc, Act.cs, or_self, List.getD_cons_zero, List.getD_cons_succ, gdS, cn0, cn1, cn2, cn3, cn4, cn5, cn6, Nat.reduceMul, Int.reduceAdd, Int.reduceSub, mn_int, Bool.true_and, ne78, ne87]))
    all_goals (try simp [Act.zero])
  all_goals clear hN hY hnum hfx hbb hpw hK
  all_goals simp (disch := omega) only [he.1, he.2, ↓Ed, Eu, ↓reduceIte, reduceCtorEq, Nat.reduceAdd, Nat.reduceEqDiff, Nat.reduceLT, Nat.reduceLeDiff, Int.reduceToNat, Int.reduceEq, Int.reduceLT, Int.reduceLE, w64, List.length_append, List.length_map, Nat.mul_one, List.append_assoc, Act.cs, or_self, List.getD_cons_zero, List.getD_cons_succ, gdS, cn0, cn1, cn2, cn3, cn4, cn5, cn6, Nat.reduceMul, Int.reduceAdd, Int.reduceSub, mn_int, Bool.true_and, ne78, ne87]
  all_goals repeat' ((first | refine NewB_intro0 (fun b => ?_) | (refine NewB_intro (fun b hb => ?_); simp only [ln_cons2, ln_nil, and_true] at hb) | (with_reducible apply And.intro; (focus (first | omega | (simp only [Fact, Bool.not_eq_true', Bool.not_eq_false', decide_eq_true_eq, decide_eq_false_iff_not] at *; omega)))) | ((first | refine gW_sp ?_ | refine condW_sp ?_ | refine pickW_sp ?_); (try refine Sp_n ?_); (first | refine Sp_t (by assumption) ?_ | refine Sp_f (by assumption) ?_ | refine Sp_split (fun h => ?_) (fun h => ?_)) <;> (first | have h' := Fact_lt h | have h' := Fact_nlt h | have h' := Fact_le h | have h' := Fact_nle h | skip) <;> (try (exfalso; omega))) | refine TreeW_intro (by rfl) ?_ | refine Two_intro ?_ ?_ | exact leK_lit (by simp [LeL, lk, *]) | (show (_ : Nat) ≤ _; omega)) <;> (try simp (disch := omega) only [*, ↓Ed, Eu, ↓reduceIte, reduceCtorEq, Nat.reduceAdd, Nat.reduceEqDiff, Nat.reduceLT, Nat.reduceLeDiff, Int.reduceToNat, Int.reduceEq, Int.reduceLT, Int.reduceLE, w64, List.length_append, List.length_map, Nat.mul_one, List.append_assoc, Act.cs, or_self, List.getD_cons_zero, List.getD_cons_succ, gdS, cn0, cn1, cn2, cn3, cn4, cn5, cn6, Nat.reduceMul, Int.reduceAdd, Int.reduceSub, mn_int, Bool.true_and, ne78, ne87]))
  all_goals (simp only [Fact, Bool.not_eq_true', Bool.not_eq_false', decide_eq_true_eq, decide_eq_false_iff_not] at h; generalize w.getD 0 [] = w0 at *)
  all_goals (try exact Round_lit 1 ⟨Le_lit (by simp [LeL, lk, kindU, h, he]), by omega, by omega⟩)
  all_goals (try exact Round_lit 2 ⟨Le_lit (by simp [LeL, lk, kindU, h, he]), by omega, by omega⟩)
  all_goals (try exact Round_lit 3 ⟨Le_lit (by simp [LeL, lk, kindU, h, he]), by omega, by omega⟩)
  all_goals (try exact Round_lit 4 ⟨Le_lit (by simp [LeL, lk, kindU, h, he]), by omega, by omega⟩)
  all_goals (try exact Round_lit 5 ⟨Le_lit (by simp [LeL, lk, kindU, h, he]), by omega, by omega⟩)
  all_goals (try exact Round_lit 6 ⟨Le_lit (by simp [LeL, lk, kindU, h, he]), by omega, by omega⟩)
set_option maxHeartbeats 16000000 in
theorem p_act3 (t : List UInt8) (ht : t.length ≤ 8000000) (r : AV) (hr : ActR t r) (hK : kindA ((spx 32 t).getD 0 []) = 3) : CP Tryd.prog 43 [.str t] r := by
  obtain ⟨hN, hY⟩ := hr
  have hw0 := spx_pos 32 t
  have hbb := fun i => Nat.le_trans (spx_getlen 32 t i) ht
  have hpw := p_words t ht
  generalize spx 32 t = w at *
  have hnum := fun i => p_rNumber (w.getD i []) (Nat.le_trans (hbb i) (by omega))
  have hfx := fun i => p_FromHex (w.getD i []) (hbb i)
  refine ok_ligref30_act _ _ (by simp) ?_
  simp only [c_ligref30_act, ↓Ed, Eu, ↓reduceIte, reduceCtorEq, Nat.reduceAdd, Nat.reduceEqDiff, Nat.reduceLT, Nat.reduceLeDiff, Int.reduceToNat, Int.reduceEq, Int.reduceLT, Int.reduceLE, w64, List.length_append, List.length_map, Nat.mul_one, List.append_assoc, Act.cs, or_self, List.getD_cons_zero, List.getD_cons_succ, gdS, cn0, cn1, cn2, cn3, cn4, cn5, cn6, Nat.reduceMul, Int.reduceAdd, Int.reduceSub, mn_int, Bool.true_and, ne78, ne87]
  repeat' ((first | refine CallO_pure (hpw) ?_ | refine NewB_intro0 (fun b => ?_) | (refine NewB_intro (fun b hb => ?_); simp only [ln_cons2, ln_nil, and_true] at hb) | (with_reducible apply And.intro; (focus (first | omega | (simp only [Fact, Bool.not_eq_true', Bool.not_eq_false', decide_eq_true_eq, decide_eq_false_iff_not] at *; omega)))) | ((first | refine gW_sp ?_ | refine condW_sp ?_ | refine pickW_sp ?_); (try refine Sp_n ?_); (first | refine Sp_t (by assumption) ?_ | refine Sp_f (by assumption) ?_ | refine Sp_split (fun h => ?_) (fun h => ?_)) <;> (first | have h' := Fact_lt h | have h' := Fact_nlt h | have h' := Fact_le h | have h' := Fact_nle h | skip) <;> (try (exfalso; omega))) | refine TreeW_intro (by rfl) ?_ | refine Two_intro ?_ ?_ | exact leK_lit (by simp [LeL, lk, *]) | (show (_ : Nat) ≤ _; omega)) <;> (try simp (disch := omega) only [*, ↓Ed, Eu, ↓reduceIte, reduceCtorEq, Nat.reduceAdd, Nat.reduceEqDiff, Nat.reduceLT, Nat.reduceLeDiff, Int.reduceToNat, Int.reduceEq, Int.reduceLT, Int.reduceLE, w64, List.length_append, List.length_map, Nat.mul_one, List.append_assoc, Act.cs, or_self, List.getD_cons_zero, List.getD_cons_succ, gdS, cn0, cn1, cn2, cn3, cn4, cn5, cn6, Nat.reduceMul, Int.reduceAdd, Int.reduceSub, mn_int, Bool.true_and, ne78, ne87]))
  rename_i d
  obtain ⟨e, hee⟩ : ∃ e, e = b := ⟨b, rfl⟩
  subst hee
  rename _ ∧ _ => he
  refine wpx_loop (fun k : Nat => ⟨lk [(0, .str t), (2, .ptr d 0), (3, .bool false), (4, .sl (some 9) 1 (strs w)), (5, .ptr e 0), (6, .sl (some 9) 1 [[.str []], [.str (wd 1)], [.str (wd 2)], [.str (wd 3)], [.str (wd 4)], [.str (wd 5)], [.str (wd 6)]]), (7, .int .i64 ((k : Int) + 1))], lk [(d, [.int .i64 0, .int .i64 0, .int .i64 0, .int .i64 0, .int .i64 0, .str []]), (e, [.int .i64 (kindU (w.getD 0 []) k), .int .i64 0, .int .i64 0, .int .i64 0, .int .i64 0, .str []])]⟩) (fun k => k ≤ 6) (fun k => 6 - k) 0 (by omega) (Le_lit (by simp [LeL, lk, kindU, he, wd])) ?_
  intro k hk
  have hk7 : k = 0 ∨ k = 1 ∨ k = 2 ∨ k = 3 ∨ k = 4 ∨ k = 5 ∨ k = 6 := by omega
  rcases hk7 with rfl | rfl | rfl | rfl | rfl | rfl | rfl
  case inr.inr.inr.inr.inr.inr =>
    clear hk hbb hpw
    have hk6 : kindU (w.getD 0 []) 6 = 3 := by rw [kindU6]; exact hK
    by_cases hl : w.length = 2
    · by_cases ha : w.getD 1 [] = [97]
      · have hb98 : ¬ w.getD 1 [] = [98] := by rw [ha]; decide
        have hx : readA w = ⟨3, 0, 0, 0, 0, []⟩ := by
          simp only [readA, hK, hl, ha, Nat.reduceSub]
          simp
        have hq : DocOk w := ⟨by omega, by rw [hK, hl]; rfl, fun _ => .inl ha, by omega, by omega, by omega, by omega⟩
        obtain rfl := hY hq
        rw [hx]
        clear hN hY hq hx
        have hm1 : mayA ⟨3, 0, 0, 0, 0, []⟩ = true := by decide
        have hd := p_MayAct ⟨3, 0, 0, 0, 0, []⟩
        have hL := p_Line ⟨3, 0, 0, 0, 0, []⟩ (of_decide_eq_true hm1) (by simp)
        rw [hm1] at hd
        rw [hm1]
        simp (disch := omega) only [hk6, he.1, he.2, ↓Ed, Eu, ↓reduceIte, reduceCtorEq, Nat.reduceAdd, Nat.reduceEqDiff, Nat.reduceLT, Nat.reduceLeDiff, Int.reduceToNat, Int.reduceEq, Int.reduceLT, Int.reduceLE, w64, List.length_append, List.length_map, Nat.mul_one, List.append_assoc, Act.cs, or_self, List.getD_cons_zero, List.getD_cons_succ, gdS, cn0, cn1, cn2, cn3, cn4, cn5, cn6, Nat.reduceMul, Int.reduceAdd, Int.reduceSub, mn_int, Bool.true_and, ne78, ne87]
        repeat' ((first | refine NewB_intro0 (fun b => ?_) | (refine NewB_intro (fun b hb => ?_); simp only [ln_cons2, ln_nil, and_true] at hb) | (with_reducible apply And.intro; (focus (first | omega | (simp only [Fact, Bool.not_eq_true', Bool.not_eq_false', decide_eq_true_eq, decide_eq_false_iff_not] at *; omega)))) | ((first | refine gW_sp ?_ | refine condW_sp ?_ | refine pickW_sp ?_); (try refine Sp_n ?_); (first | refine Sp_t (by assumption) ?_ | refine Sp_f (by assumption) ?_ | refine Sp_split (fun h => ?_) (fun h => ?_)) <;> (first | have h' := Fact_lt h | have h' := Fact_nlt h | have h' := Fact_le h | have h' := Fact_nle h | skip) <;> (try (exfalso; omega))) | refine TreeW_intro (by rfl) ?_ | refine Two_intro ?_ ?_ | exact leK_lit (by simp [LeL, lk, *]) | (show (_ : Nat) ≤ _; omega)) <;> (try simp (disch := omega) only [*, ↓Ed, Eu, ↓reduceIte, reduceCtorEq, Nat.reduceAdd, Nat.reduceEqDiff, Nat.reduceLT, Nat.reduceLeDiff, Int.reduceToNat, Int.reduceEq, Int.reduceLT, Int.reduceLE, w64, List.length_append, List.length_map, Nat.mul_one, List.append_assoc, Act.cs, or_self, List.getD_cons_zero, List.getD_cons_succ, gdS, cn0, cn1, cn2, cn3, cn4, cn5, cn6, Nat.reduceMul, Int.reduceAdd, Int.reduceSub, mn_int, Bool.true_and, ne78, ne87]))
        refine wpx_loop (fun j : Nat => ⟨lk [(0, .str t), (2, .ptr d 0), (3, .bool false), (4, .sl (some 9) 1 (strs w)), (5, .ptr e 0), (8, .int .i64 2), (9, .ptr b 0), (10, .int .i64 (j : Int))], lk [(d, [.int .i64 0, .int .i64 0, .int .i64 0, .int .i64 0, .int .i64 0, .str []]), (e, [.int .i64 3, .int .i64 0, .int .i64 0, .int .i64 0, .int .i64 0, .str []]), (b, [.int .i64 0, .int .i64 0, .int .i64 0])]⟩) (fun j => j ≤ 3) (fun j => 3 - j) 0 (by omega) (Le_lit (by simp [LeL, lk, he, hb])) ?_
        intro j hj
        simp (disch := omega) only [he.1, he.2, hb.1.1, hb.1.2, hb.2.1, hb.2.2, ↓Ed, Eu, ↓reduceIte, reduceCtorEq, Nat.reduceAdd, Nat.reduceEqDiff, Nat.reduceLT, Nat.reduceLeDiff, Int.reduceToNat, Int.reduceEq, Int.reduceLT, Int.reduceLE, w64, List.length_append, List.length_map, Nat.mul_one, List.append_assoc, Act.cs, or_self, List.getD_cons_zero, List.getD_cons_succ, gdS, cn0, cn1, cn2, cn3, cn4, cn5, cn6, Nat.reduceMul, Int.reduceAdd, Int.reduceSub, mn_int, Bool.true_and, ne78, ne87]
        repeat' ((first | refine CallW_intro (hd) ?_ | refine CallW_intro (hL) ?_ | refine NewB_intro0 (fun b => ?_) | (refine NewB_intro (fun b hb => ?_); simp only [ln_cons2, ln_nil, and_true] at hb) | (with_reducible apply And.intro; (focus (first | omega | (simp only [Fact, Bool.not_eq_true', Bool.not_eq_false', decide_eq_true_eq, decide_eq_false_iff_not] at *; omega)))) | ((first | refine gW_sp ?_ | refine condW_sp ?_ | refine pickW_sp ?_); (try refine Sp_n ?_); (first | refine Sp_t (by assumption) ?_ | refine Sp_f (by assumption) ?_ | refine Sp_split (fun h => ?_) (fun h => ?_)) <;> (first | have h' := Fact_lt h | have h' := Fact_nlt h | have h' := Fact_le h | have h' := Fact_nle h | skip) <;> (try (exfalso; omega))) | refine TreeW_intro (by rfl) ?_ | refine Two_intro ?_ ?_ | exact leK_lit (by simp [LeL, lk, *]) | (show (_ : Nat) ≤ _; omega)) <;> (try simp (disch := omega) only [*, ↓Ed, Eu, ↓reduceIte, reduceCtorEq, Nat.reduceAdd, Nat.reduceEqDiff, Nat.reduceLT, Nat.reduceLeDiff, Int.reduceToNat, Int.reduceEq, Int.reduceLT, Int.reduceLE, w64, List.length_append, List.length_map, Nat.mul_one, List.append_assoc, Act.cs, or_self, List.getD_cons_zero, List.getD_cons_succ, gdS, cn0, cn1, cn2, cn3, cn4, cn5, cn6, Nat.reduceMul, Int.reduceAdd, Int.reduceSub, mn_int, Bool.true_and, ne78, ne87]))
        all_goals (try exact Round_lit (j + 1) ⟨Le_lit (by simp [LeL, lk, he, hb]), by omega, by omega⟩)
        all_goals (try simp [*])
      · by_cases hb98 : w.getD 1 [] = [98]
        · have hx : readA w = ⟨3, 1, 0, 0, 0, []⟩ := by
            simp only [readA, hK, hl, hb98, Nat.reduceSub]
            simp
          have hq : DocOk w := ⟨by omega, by rw [hK, hl]; rfl, fun _ => .inr hb98, by omega, by omega, by omega, by omega⟩
          obtain rfl := hY hq
          rw [hx]
          clear hN hY hq hx
          have hm1 : mayA ⟨3, 1, 0, 0, 0, []⟩ = true := by decide
          have hd := p_MayAct ⟨3, 1, 0, 0, 0, []⟩
          have hL := p_Line ⟨3, 1, 0, 0, 0, []⟩ (of_decide_eq_true hm1) (by simp)
          rw [hm1] at hd
          rw [hm1]
          simp (disch := omega) only [hk6, he.1, he.2, ↓Ed, Eu, ↓reduceIte, reduceCtorEq, Nat.reduceAdd, Nat.reduceEqDiff, Nat.reduceLT, Nat.reduceLeDiff, Int.reduceToNat, Int.reduceEq, Int.reduceLT, Int.reduceLE, w64, List.length_append, List.length_map, Nat.mul_one, List.append_assoc, Act.cs, or_self, List.getD_cons_zero, List.getD_cons_succ, gdS, cn0, cn1, cn2, cn3, cn4, cn5, cn6, Nat.reduceMul, Int.reduceAdd, Int.reduceSub, mn_int, Bool.true_and, ne78, ne87]
          repeat' ((first | refine NewB_intro0 (fun b => ?_) | (refine NewB_intro (fun b hb => ?_); simp only [ln_cons2, ln_nil, and_true] at hb) | (with_reducible apply And.intro; (focus (first | omega | (simp only [Fact, Bool.not_eq_true', Bool.not_eq_false', decide_eq_true_eq, decide_eq_false_iff_not] at *; omega)))) | ((first | refine gW_sp ?_ | refine condW_sp ?_ | refine pickW_sp ?_); (try refine Sp_n ?_); (first | refine Sp_t (by assumption) ?_ | refine Sp_f (by assumption) ?_ | refine Sp_split (fun h => ?_) (fun h => ?_)) <;> (first | have h' := Fact_lt h | have h' := Fact_nlt h | have h' := Fact_le h | have h' := Fact_nle h | skip) <;> (try (exfalso; omega))) | refine TreeW_intro (by rfl) ?_ | refine Two_intro ?_ ?_ | exact leK_lit (by simp [LeL, lk, *]) | (show (_ : Nat) ≤ _; omega)) <;> (try simp (disch := omega) only [*, ↓Ed, Eu, ↓reduceIte, reduceCtorEq, Nat.reduceAdd, Nat.reduceEqDiff, Nat.reduceLT, Nat.reduceLeDiff, Int.reduceToNat, Int.reduceEq, Int.reduceLT, Int.reduceLE, w64, List.length_append, List.length_map, Nat.mul_one, List.append_assoc, Act.cs, or_self, List.getD_cons_zero, List.getD_cons_succ, gdS, cn0, cn1, cn2, cn3, cn4, cn5, cn6, Nat.reduceMul, Int.reduceAdd, Int.reduceSub, mn_int, Bool.true_and, ne78, ne87]))
          refine wpx_loop (fun j : Nat => ⟨lk [(0, .str t), (2, .ptr d 0), (3, .bool false), (4, .sl (some 9) 1 (strs w)), (5, .ptr e 0), (8, .int .i64 2), (9, .ptr b 0), (10, .int .i64 (j : Int))], lk [(d, [.int .i64 0, .int .i64 0, .int .i64 0, .int .i64 0, .int .i64 0, .str []]), (e, [.int .i64 3, .int .i64 1, .int .i64 0, .int .i64 0, .int .i64 0, .str []]), (b, [.int .i64 0, .int .i64 0, .int .i64 0])]⟩) (fun j => j ≤ 3) (fun j => 3 - j) 0 (by omega) (Le_lit (by simp [LeL, lk, he, hb])) ?_
          intro j hj
          simp (disch := omega) only [he.1, he.2, hb.1.1, hb.1.2, hb.2.1, hb.2.2, ↓Ed, Eu, ↓reduceIte, reduceCtorEq, Nat.reduceAdd, Nat.reduceEqDiff, Nat.reduceLT, Nat.reduceLeDiff, Int.reduceToNat, Int.reduceEq, Int.reduceLT, Int.reduceLE, w64, List.length_append, List.length_map, Nat.mul_one, List.append_assoc, Act.cs, or_self, List.getD_cons_zero, List.getD_cons_succ, gdS, cn0, cn1, cn2, cn3, cn4, cn5, cn6, Nat.reduceMul, Int.reduceAdd, Int.reduceSub, mn_int, Bool.true_and, ne78, ne87]
          repeat' ((first | refine CallW_intro (hd) ?_ | refine CallW_intro (hL) ?_ | refine NewB_intro0 (fun b => ?_) | (refine NewB_intro (fun b hb => ?_); simp only [ln_cons2, ln_nil, and_true] at hb) | (with_reducible apply And.intro; (focus (first | omega | (simp only [Fact, Bool.not_eq_true', Bool.not_eq_false', decide_eq_true_eq, decide_eq_false_iff_not] at *; omega)))) | ((first | refine gW_sp ?_ | refine condW_sp ?_ | refine pickW_sp ?_); (try refine Sp_n ?_); (first | refine Sp_t (by assumption) ?_ | refine Sp_f (by assumption) ?_ | refine Sp_split (fun h => ?_) (fun h => ?_)) <;> (first | have h' := Fact_lt h | have h' := Fact_nlt h | have h' := Fact_le h | have h' := Fact_nle h | skip) <;> (try (exfalso; omega))) | refine TreeW_intro (by rfl) ?_ | refine Two_intro ?_ ?_ | exact leK_lit (by simp [LeL, lk, *]) | (show (_ : Nat) ≤ _; omega)) <;> (try simp (disch := omega) only [*, ↓Ed, Eu, ↓reduceIte, reduceCtorEq, Nat.reduceAdd, Nat.reduceEqDiff, Nat.reduceLT, Nat.reduceLeDiff, Int.reduceToNat, Int.reduceEq, Int.reduceLT, Int.reduceLE, w64, List.length_append, List.length_map, Nat.mul_one, List.append_assoc, Act.cs, or_self, List.getD_cons_zero, List.getD_cons_succ, gdS, cn0, cn1, cn2, cn3, cn4, cn5, cn6, Nat.reduceMul, Int.reduceAdd, Int.reduceSub, mn_int, Bool.true_and, ne78, ne87]))
          all_goals (try exact Round_lit (j + 1) ⟨Le_lit (by simp [LeL, lk, he, hb]), by omega, by omega⟩)
          all_goals (try simp [*])
        · obtain rfl := hN (fun g => by rcases g.s (by omega) with g | g; exact ha g; exact hb98 g)
          clear hN hY
          simp (disch := omega) only [hk6, he.1, he.2, ↓Ed, Eu, ↓reduceIte, reduceCtorEq, Nat.reduceAdd, Nat.reduceEqDiff, Nat.reduceLT, Nat.reduceLeDiff, Int.reduceToNat, Int.reduceEq, Int.reduceLT, Int.reduceLE, w64, List.length_append, List.length_map, Nat.mul_one, List.append_assoc, Act.cs, or_self, List.getD_cons_zero, List.getD_cons_succ, gdS, cn0, cn1, cn2, cn3, cn4, cn5, cn6, Nat.reduceMul, Int.reduceAdd, Int.reduceSub, mn_int, Bool.true_and, ne78, ne87]
          repeat' ((first | refine NewB_intro0 (fun b => ?_) | (refine NewB_intro (fun b hb => ?_); simp only [ln_cons2, ln_nil, and_true] at hb) | (with_reducible apply And.intro; (focus (first | omega | (simp only [Fact, Bool.not_eq_true', Bool.not_eq_false', decide_eq_true_eq, decide_eq_false_iff_not] at *; omega)))) | ((first | refine gW_sp ?_ | refine condW_sp ?_ | refine pickW_sp ?_); (try refine Sp_n ?_); (first | refine Sp_t (by assumption) ?_ | refine Sp_f (by assumption) ?_ | refine Sp_split (fun h => ?_) (fun h => ?_)) <;> (first | have h' := Fact_lt h | have h' := Fact_nlt h | have h' := Fact_le h | have h' := Fact_nle h | skip) <;> (try (exfalso; omega))) | refine TreeW_intro (by rfl) ?_ | refine Two_intro ?_ ?_ | exact leK_lit (by simp [LeL, lk, *]) | (show (_ : Nat) ≤ _; omega)) <;> (try simp (disch := omega) only [*, ↓Ed, Eu, ↓reduceIte, reduceCtorEq, Nat.reduceAdd, Nat.reduceEqDiff, Nat.reduceLT, Nat.reduceLeDiff, Int.reduceToNat, Int.reduceEq, Int.reduceLT, Int.reduceLE, w64, List.length_append, List.length_map, Nat.mul_one, List.append_assoc, Act.cs, or_self, List.getD_cons_zero, List.getD_cons_succ, gdS, cn0, cn1, cn2, cn3, cn4, cn5, cn6, Nat.reduceMul, Int.reduceAdd, Int.reduceSub, mn_int, Bool.true_and, ne78, ne87]))
          all_goals (try simp [Act.zero])
    · obtain rfl := hN (fun g => hl (by have := g.l; rw [hK] at this; simpa [want] using this))
      clear hN hY
      have hl' : ¬ ((w.length : Int) = 2) := by omega
      simp (disch := omega) only [hk6, he.1, he.2, ↓Ed, Eu, ↓reduceIte, reduceCtorEq, Nat.reduceAdd, Nat.reduceEqDiff, Nat.reduceLT, Nat.reduceLeDiff, Int.reduceToNat, Int.reduceEq, Int.reduceLT, Int.reduceLE, w64, List.length_append, List.length_map, Nat.mul_one, List.append_assoc, Act.cs, or_self, List.getD_cons_zero, List.getD_cons_succ, gdS, cn0, cn1, cn2, cn3, cn4, cn5, cn6, Nat.reduceMul, Int.reduceAdd, Int.reduceSub, mn_int, Bool.true_and, ne78, ne87]
      repeat' ((first | refine NewB_intro0 (fun b => ?_) | (refine NewB_intro (fun b hb => ?_); simp only [ln_cons2, ln_nil, and_true] at hb) | (with_reducible apply And.intro; (focus (first | omega | (simp only [Fact, Bool.not_eq_true', Bool.not_eq_false', decide_eq_true_eq, decide_eq_false_iff_not] at *; omega)))) | ((first | refine gW_sp ?_ | refine condW_sp ?_ | refine pickW_sp ?_); (try refine Sp_n ?_); (first | refine Sp_t (by assumption) ?_ | refine Sp_f (by assumption) ?_ | refine Sp_split (fun h => ?_) (fun h => ?_)) <;> (first | have h' := Fact_lt h | have h' := Fact_nlt h | have h' := Fact_le h | have h' := Fact_nle h | skip) <;> (try (exfalso; omega))) | refine TreeW_intro (by rfl) ?_ | refine Two_intro ?_ ?_ | exact leK_lit (by simp [LeL, lk, *]) | (show (_ : Nat) ≤ _; omega)) <;> (try simp (disch := omega) only [*, ↓Ed, Eu, ↓reduceIte, reduceCtorEq, Nat.reduceAdd, Nat.reduceEqDiff, Nat.reduceLT, Nat.reduceLeDiff, Int.reduceToNat, Int.reduceEq, Int.reduceLT, Int.reduceLE, w64, List.length_append, List.length_map, Nat.mul_one, List.append_assoc, Act.cs, or_self, List.getD_cons_zero, List.getD_cons_succ, gdS, cn0, cn1, cn2, cn3, cn4, cn5, cn6, Nat.reduceMul, Int.reduceAdd, Int.reduceSub, mn_int, Bool.true_and, ne78, ne87]))
      all_goals (try simp [Act.zero])
  all_goals clear hN hY hnum hfx hbb hpw hK
  all_goals simp (disch := omega) only [he.1, he.2, ↓Ed, Eu, ↓reduceIte, reduceCtorEq, Nat.reduceAdd, Nat.reduceEqDiff, Nat.reduceLT, Nat.reduceLeDiff, Int.reduceToNat, Int.reduceEq, Int.reduceLT, Int.reduceLE, w64, List.length_append, List.length_map, Nat.mul_one, List.append_assoc, Act.cs, or_self, List.getD_cons_zero, List.getD_cons_succ, gdS, cn0, cn1, cn2, cn3, cn4, cn5, cn6, Nat.reduceMul, Int.reduceAdd, Int.reduceSub, mn_int, Bool.true_and, ne78, ne87]
  all_goals repeat' ((first | refine NewB_intro0 (fun b => ?_) | (refine NewB_intro (fun b hb => ?_); simp only [ln_cons2, ln_nil, and_true] at hb) | (with_reducible apply And.intro; (focus (first | omega | (simp only [Fact, Bool.not_eq_true', Bool.not_eq_false', decide_eq_true_eq, decide_eq_false_iff_not] at *; omega)))) | ((first | refine gW_sp ?_ | refine condW_sp ?_ | refine pickW_sp ?_); (try refine Sp_n ?_); (first | refine Sp_t (by assumption) ?_ | refine Sp_f (by assumption) ?_ | refine Sp_split (fun h => ?_) (fun h => ?_)) <;> (first | have h' := Fact_lt h | have h' := Fact_nlt h | have h' := Fact_le h | have h' := Fact_nle h | skip) <;> (try (exfalso; omega))) | refine TreeW_intro (by rfl) ?_ | refine Two_intro ?_ ?_ | exact leK_lit (by simp [LeL, lk, *]) | (show (_ : Nat) ≤ _; omega)) <;> (try simp (disch := omega) only [*, ↓Ed, Eu, ↓reduceIte, reduceCtorEq, Nat.reduceAdd, Nat.reduceEqDiff, Nat.reduceLT, Nat.reduceLeDiff, Int.reduceToNat, Int.reduceEq, Int.reduceLT, Int.reduceLE, w64, List.length_append, List.length_map, Nat.mul_one, List.append_assoc, Act.cs, or_self, List.getD_cons_zero, List.getD_cons_succ, gdS, cn0, cn1, cn2, cn3, cn4, cn5, cn6, Nat.reduceMul, Int.reduceAdd, Int.reduceSub, mn_int, Bool.true_and, ne78, ne87]))
  all_goals (simp only [Fact, Bool.not_eq_true', Bool.not_eq_false', decide_eq_true_eq, decide_eq_false_iff_not] at h; generalize w.getD 0 [] = w0 at *)
  all_goals (try exact Round_lit 1 ⟨Le_lit (by simp [LeL, lk, kindU, h, he]), by omega, by omega⟩)
  all_goals (try exact Round_lit 2 ⟨Le_lit (by simp [LeL, lk, kindU, h, he]), by omega, by omega⟩)
  all_goals (try exact Round_lit 3 ⟨Le_lit (by simp [LeL, lk, kindU, h, he]), by omega, by omega⟩)
  all_goals (try exact Round_lit 4 ⟨Le_lit (by simp [LeL, lk, kindU, h, he]), by omega, by omega⟩)
  all_goals (try exact Round_lit 5 ⟨Le_lit (by simp [LeL, lk, kindU, h, he]), by omega, by omega⟩)
  all_goals (try exact Round_lit 6 ⟨Le_lit (by simp [LeL, lk, kindU, h, he]), by omega, by omega⟩)
set_option maxHeartbeats 16000000 in
theorem p_act5 (t : List UInt8) (ht : t.length ≤ 8000000) (r : AV) (hr : ActR t r) (hK : kindA ((spx 32 t).getD 0 []) = 5) : CP Tryd.prog 43 [.str t] r := by
  obtain ⟨hN, hY⟩ := hr
  have hw0 := spx_pos 32 t
  have hbb := fun i => Nat.le_trans (spx_getlen 32 t i) ht
  have hpw := p_words t ht
  generalize spx 32 t = w at *
  have hnum := fun i => p_rNumber (w.getD i []) (Nat.le_trans (hbb i) (by omega))
  have hfx := fun i => p_FromHex (w.getD i []) (hbb i)
  refine ok_ligref30_act _ _ (by simp) ?_
  simp only [c_ligref30_act, ↓Ed, Eu, ↓reduceIte, reduceCtorEq, Nat.reduceAdd, Nat.reduceEqDiff, Nat.reduceLT, Nat.reduceLeDiff, Int.reduceToNat, Int.reduceEq, Int.reduceLT, Int.reduceLE, w64, List.length_append, List.length_map, Nat.mul_one, List.append_assoc, Act.cs, or_self, List.getD_cons_zero, List.getD_cons_succ, gdS, cn0, cn1, cn2, cn3, cn4, cn5, cn6, Nat.reduceMul, Int.reduceAdd, Int.reduceSub, mn_int, Bool.true_and, ne78, ne87]
  repeat' ((first | refine CallO_pure (hpw) ?_ | refine NewB_intro0 (fun b => ?_) | (refine NewB_intro (fun b hb => ?_); simp only [ln_cons2, ln_nil, and_true] at hb) | (with_reducible apply And.intro; (focus (first | omega | (simp only [Fact, Bool.not_eq_true', Bool.not_eq_false', decide_eq_true_eq, decide_eq_false_iff_not] at *; omega)))) | ((first | refine gW_sp ?_ | refine condW_sp ?_ | refine pickW_sp ?_); (try refine Sp_n ?_); (first | refine Sp_t (by assumption) ?_ | refine Sp_f (by assumption) ?_ | refine Sp_split (fun h => ?_) (fun h => ?_)) <;> (first | have h' := Fact_lt h | have h' := Fact_nlt h | have h' := Fact_le h | have h' := Fact_nle h | skip) <;> (try (exfalso; omega))) | refine TreeW_intro (by rfl) ?_ | refine Two_intro ?_ ?_ | exact leK_lit (by simp [LeL, lk, *]) | (show (_ : Nat) ≤ _; omega)) <;> (try simp (disch := omega) only [*, ↓Ed, Eu, ↓reduceIte, reduceCtorEq, Nat.reduceAdd, Nat.reduceEqDiff, Nat.reduceLT, Nat.reduceLeDiff, Int.reduceToNat, Int.reduceEq, Int.reduceLT, Int.reduceLE, w64, List.length_append, List.length_map, Nat.mul_one, List.append_assoc, Act.cs, or_self, List.getD_cons_zero, List.getD_cons_succ, gdS, cn0, cn1, cn2, cn3, cn4, cn5, cn6, Nat.reduceMul, Int.reduceAdd, Int.reduceSub, mn_int, Bool.true_and, ne78, ne87]))
  rename_i d
  obtain ⟨e, hee⟩ : ∃ e, e = b := ⟨b, rfl⟩
  subst hee
  rename _ ∧ _ => he
  refine wpx_loop (fun k : Nat => ⟨lk [(0, .str t), (2, .ptr d 0), (3, .bool false), (4, .sl (some 9) 1 (strs w)), (5, .ptr e 0), (6, .sl (some 9) 1 [[.str []], [.str (wd 1)], [.str (wd 2)], [.str (wd 3)], [.str (wd 4)], [.str (wd 5)], [.str (wd 6)]]), (7, .int .i64 ((k : Int) + 1))], lk [(d, [.int .i64 0, .int .i64 0, .int .i64 0, .int .i64 0, .int .i64 0, .str []]), (e, [.int .i64 (kindU (w.getD 0 []) k), .int .i64 0, .int .i64 0, .int .i64 0, .int .i64 0, .str []])]⟩) (fun k => k ≤ 6) (fun k => 6 - k) 0 (by omega) (Le_lit (by simp [LeL, lk, kindU, he, wd])) ?_
  intro k hk
  have hk7 : k = 0 ∨ k = 1 ∨ k = 2 ∨ k = 3 ∨ k = 4 ∨ k = 5 ∨ k = 6 := by omega
  rcases hk7 with rfl | rfl | rfl | rfl | rfl | rfl | rfl
  case inr.inr.inr.inr.inr.inr =>
    clear hk hbb hpw
    have hk6 : kindU (w.getD 0 []) 6 = 5 := by rw [kindU6]; exact hK
    by_cases hl : w.length = 1
    · have hx : readA w = ⟨5, 0, 0, 0, 0, []⟩ := by
        simp only [readA, hK, hl, hl, Nat.reduceSub]
        simp
      have hq : DocOk w := ⟨by omega, by rw [hK, hl]; rfl, by omega, by omega, by omega, by omega, by omega⟩
      obtain rfl := hY hq
      rw [hx]
      clear hN hY hq hx
      have hm1 : mayA ⟨5, 0, 0, 0, 0, []⟩ = true := by decide
      have hd := p_MayAct ⟨5, 0, 0, 0, 0, []⟩
      have hL := p_Line ⟨5, 0, 0, 0, 0, []⟩ (of_decide_eq_true hm1) (by simp)
      rw [hm1] at hd
      rw [hm1]
      simp (disch := omega) only [hk6, he.1, he.2, ↓Ed, Eu, ↓reduceIte, reduceCtorEq, Nat.reduceAdd, Nat.reduceEqDiff, Nat.reduceLT, Nat.reduceLeDiff, Int.reduceToNat, Int.reduceEq, Int.reduceLT, Int.reduceLE, w64, List.length_append, List.length_map, Nat.mul_one, List.append_assoc, Act.cs, or_self, List.getD_cons_zero, List.getD_cons_succ, gdS, cn0, cn1, cn2, cn3, cn4, cn5, cn6, Nat.reduceMul, Int.reduceAdd, Int.reduceSub, mn_int, Bool.true_and, ne78, ne87]
      repeat' ((first | refine NewB_intro0 (fun b => ?_) | (refine NewB_intro (fun b hb => ?_); simp only [ln_cons2, ln_nil, and_true] at hb) | (with_reducible apply And.intro; (focus (first | omega | (simp only [Fact, Bool.not_eq_true', Bool.not_eq_false', decide_eq_true_eq, decide_eq_false_iff_not] at *; omega)))) | ((first | refine gW_sp ?_ | refine condW_sp ?_ | refine pickW_sp ?_); (try refine Sp_n ?_); (first | refine Sp_t (by assumption) ?_ | refine Sp_f (by assumption) ?_ | refine Sp_split (fun h => ?_) (fun h => ?_)) <;> (first | have h' := Fact_lt h | have h' := Fact_nlt h | have h' := Fact_le h | have h' := Fact_nle h | skip) <;> (try (exfalso; omega))) | refine TreeW_intro (by rfl) ?_ | refine Two_intro ?_ ?_ | exact leK_lit (by simp [LeL, lk, *]) | (show (_ : Nat) ≤ _; omega)) <;> (try simp (disch := omega) only [*, ↓Ed, Eu, ↓reduceIte, reduceCtorEq, Nat.reduceAdd, Nat.reduceEqDiff, Nat.reduceLT, Nat.reduceLeDiff, Int.reduceToNat, Int.reduceEq, Int.reduceLT, Int.reduceLE, w64, List.length_append, List.length_map, Nat.mul_one, List.append_assoc, Act.cs, or_self, List.getD_cons_zero, List.getD_cons_succ, gdS, cn0, cn1, cn2, cn3, cn4, cn5, cn6, Nat.reduceMul, Int.reduceAdd, Int.reduceSub, mn_int, Bool.true_and, ne78, ne87]))
      refine wpx_loop (fun j : Nat => ⟨lk [(0, .str t), (2, .ptr d 0), (3, .bool false), (4, .sl (some 9) 1 (strs w)), (5, .ptr e 0), (8, .int .i64 1), (9, .ptr b 0), (10, .int .i64 (j : Int))], lk [(d, [.int .i64 0, .int .i64 0, .int .i64 0, .int .i64 0, .int .i64 0, .str []]), (e, [.int .i64 5, .int .i64 0, .int .i64 0, .int .i64 0, .int .i64 0, .str []]), (b, [.int .i64 0, .int .i64 0, .int .i64 0])]⟩) (fun j => j ≤ 3) (fun j => 3 - j) 0 (by omega) (Le_lit (by simp [LeL, lk, he, hb])) ?_
      intro j hj
      simp (disch := omega) only [he.1, he.2, hb.1.1, hb.1.2, hb.2.1, hb.2.2, ↓Ed, Eu, ↓reduceIte, reduceCtorEq, Nat.reduceAdd, Nat.reduceEqDiff, Nat.reduceLT, Nat.reduceLeDiff, Int.reduceToNat, Int.reduceEq, Int.reduceLT, Int.reduceLE, w64, List.length_append, List.length_map, Nat.mul_one, List.append_assoc, Act.cs, or_self, List.getD_cons_zero, List.getD_cons_succ, gdS, cn0, cn1, cn2, cn3, cn4, cn5, cn6, Nat.reduceMul, Int.reduceAdd, Int.reduceSub, mn_int, Bool.true_and, ne78, ne87]
      repeat' ((first | refine CallW_intro (hd) ?_ | refine CallW_intro (hL) ?_ | refine NewB_intro0 (fun b => ?_) | (refine NewB_intro (fun b hb => ?_); simp only [ln_cons2, ln_nil, and_true] at hb) | (with_reducible apply And.intro; (focus (first | omega | (simp only [Fact, Bool.not_eq_true', Bool.not_eq_false', decide_eq_true_eq, decide_eq_false_iff_not] at *; omega)))) | ((first | refine gW_sp ?_ | refine condW_sp ?_ | refine pickW_sp ?_); (try refine Sp_n ?_); (first | refine Sp_t (by assumption) ?_ | refine Sp_f (by assumption) ?_ | refine Sp_split (fun h => ?_) (fun h => ?_)) <;> (first | have h' := Fact_lt h | have h' := Fact_nlt h | have h' := Fact_le h | have h' := Fact_nle h | skip) <;> (try (exfalso; omega))) | refine TreeW_intro (by rfl) ?_ | refine Two_intro ?_ ?_ | exact leK_lit (by simp [LeL, lk, *]) | (show (_ : Nat) ≤ _; omega)) <;> (try simp (disch := omega) only [*, ↓Ed, Eu, ↓reduceIte, reduceCtorEq, Nat.reduceAdd, Nat.reduceEqDiff, Nat.reduceLT, Nat.reduceLeDiff, Int.reduceToNat, Int.reduceEq, Int.reduceLT, Int.reduceLE, w64, List.length_append, List.length_map, Nat.mul_one, List.append_assoc, Act.cs, or_self, List.getD_cons_zero, List.getD_cons_succ, gdS, cn0, cn1, cn2, cn3, cn4, cn5, cn6, Nat.reduceMul, Int.reduceAdd, Int.reduceSub, mn_int, Bool.true_and, ne78, ne87]))
      all_goals (try exact Round_lit (j + 1) ⟨Le_lit (by simp [LeL, lk, he, hb]), by omega, by omega⟩)
      all_goals (try simp [*])
    · obtain rfl := hN (fun g => hl (by have := g.l; rw [hK] at this; simpa [want] using this))
      clear hN hY
      have hl' : ¬ ((w.length : Int) = 1) := by omega
      simp (disch := omega) only [hk6, he.1, he.2, ↓Ed, Eu, ↓reduceIte, reduceCtorEq, Nat.reduceAdd, Nat.reduceEqDiff, Nat.reduceLT, Nat.reduceLeDiff, Int.reduceToNat, Int.reduceEq, Int.reduceLT, Int.reduceLE, w64, List.length_append, List.length_map, Nat.mul_one, List.append_assoc, Act.cs, or_self, List.getD_cons_zero, List.getD_cons_succ, gdS, cn0, cn1, cn2, cn3, cn4, cn5, cn6, Nat.reduceMul, Int.reduceAdd, Int.reduceSub, mn_int, Bool.true_and, ne78, ne87]
      repeat' ((first | refine NewB_intro0 (fun b => ?_) | (refine NewB_intro (fun b hb => ?_); simp only [ln_cons2, ln_nil, and_true] at hb) | (with_reducible apply And.intro; (focus (first | omega | (simp only [Fact, Bool.not_eq_true', Bool.not_eq_false', decide_eq_true_eq, decide_eq_false_iff_not] at *; omega)))) | ((first | refine gW_sp ?_ | refine condW_sp ?_ | refine pickW_sp ?_); (try refine Sp_n ?_); (first | refine Sp_t (by assumption) ?_ | refine Sp_f (by assumption) ?_ | refine Sp_split (fun h => ?_) (fun h => ?_)) <;> (first | have h' := Fact_lt h | have h' := Fact_nlt h | have h' := Fact_le h | have h' := Fact_nle h | skip) <;> (try (exfalso; omega))) | refine TreeW_intro (by rfl) ?_ | refine Two_intro ?_ ?_ | exact leK_lit (by simp [LeL, lk, *]) | (show (_ : Nat) ≤ _; omega)) <;> (try simp (disch := omega) only [*, ↓Ed, Eu, ↓reduceIte, reduceCtorEq, Nat.reduceAdd, Nat.reduceEqDiff, Nat.reduceLT, Nat.reduceLeDiff, Int.reduceToNat, Int.reduceEq, Int.reduceLT, Int.reduceLE, w64, List.length_append, List.length_map, Nat.mul_one, List.append_assoc, Act.cs, or_self, List.getD_cons_zero, List.getD_cons_succ, gdS, cn0, cn1, cn2, cn3, cn4, cn5, cn6, Nat.reduceMul, Int.reduceAdd, Int.reduceSub, mn_int, Bool.true_and, ne78, ne87]))
      all_goals (try simp [Act.zero])
  all_goals clear hN hY hnum hfx hbb hpw hK
  all_goals simp (disch := omega) only [he.1, he.2, ↓Ed, Eu, ↓reduceIte, reduceCtorEq, Nat.reduceAdd, Nat.reduceEqDiff, Nat.reduceLT, Nat.reduceLeDiff, Int.reduceToNat, Int.reduceEq, Int.reduceLT, Int.reduceLE, w64, List.length_append, List.length_map, Nat.mul_one, List.append_assoc, Act.cs, or_self, List.getD_cons_zero, List.getD_cons_succ, gdS, cn0, cn1, cn2, cn3, cn4, cn5, cn6, Nat.reduceMul, Int.reduceAdd, Int.reduceSub, mn_int, Bool.true_and, ne78, ne87]
  all_goals repeat' ((first | refine NewB_intro0 (fun b => ?_) | (refine NewB_intro (fun b hb => ?_); simp only [ln_cons2, ln_nil, and_true] at hb) | (with_reducible apply And.intro; (focus (first | omega | (simp only [Fact, Bool.not_eq_true', Bool.not_eq_false', decide_eq_true_eq, decide_eq_false_iff_not] at *; omega)))) | ((first | refine gW_sp ?_ | refine condW_sp ?_ | refine pickW_sp ?_); (try refine Sp_n ?_); (first | refine Sp_t (by assumption) ?_ | refine Sp_f (by assumption) ?_ | refine Sp_split (fun h => ?_) (fun h => ?_)) <;> (first | have h' := Fact_lt h | have h' := Fact_nlt h | have h' := Fact_le h | have h' := Fact_nle h | skip) <;> (try (exfalso; omega))) | refine TreeW_intro (by rfl) ?_ | refine Two_intro ?_ ?_ | exact leK_lit (by simp [LeL, lk, *]) | (show (_ : Nat) ≤ _; omega)) <;> (try simp (disch := omega) only [*, ↓Ed, Eu, ↓reduceIte, reduceCtorEq, Nat.reduceAdd, Nat.reduceEqDiff, Nat.reduceLT, Nat.reduceLeDiff, Int.reduceToNat, Int.reduceEq, Int.reduceLT, Int.reduceLE, w64, List.length_append, List.length_map, Nat.mul_one, List.append_assoc, Act.cs, or_self, List.getD_cons_zero, List.getD_cons_succ, gdS, cn0, cn1, cn2, cn3, cn4, cn5, cn6, Nat.reduceMul, Int.reduceAdd, Int.reduceSub, mn_int, Bool.true_and, ne78, ne87]))
  all_goals (simp only [Fact, Bool.not_eq_true', Bool.not_eq_false', decide_eq_true_eq, decide_eq_false_iff_not] at h; generalize w.getD 0 [] = w0 at *)
  all_goals (try exact Round_lit 1 ⟨Le_lit (by simp [LeL, lk, kindU, h, he]), by omega, by omega⟩)
  all_goals (try exact Round_lit 2 ⟨Le_lit (by simp [LeL, lk, kindU, h, he]), by omega, by omega⟩)
  all_goals (try exact Round_lit 3 ⟨Le_lit (by simp [LeL, lk, kindU, h, he]), by omega, by omega⟩)
  all_goals (try exact Round_lit 4 ⟨Le_lit (by simp [LeL, lk, kindU, h, he]), by omega, by omega⟩)
  all_goals (try exact Round_lit 5 ⟨Le_lit (by simp [LeL, lk, kindU, h, he]), by omega, by omega⟩)
  all_goals (try exact Round_lit 6 ⟨Le_lit (by simp [LeL, lk, kindU, h, he]), by omega, by omega⟩)
set_option maxHeartbeats 16000000 in
theorem p_act6 (t : List UInt8) (ht : t.length ≤ 8000000) (r : AV) (hr : ActR t r) (hK : kindA ((spx 32 t).getD 0 []) = 6) : CP Tryd.prog 43 [.str t] r := by
  obtain ⟨hN, hY⟩ := hr
  have hw0 := spx_pos 32 t
  have hbb := fun i => Nat.le_trans (spx_getlen 32 t i) ht
  have hpw := p_words t ht
  generalize spx 32 t = w at *
  have hnum := fun i => p_rNumber (w.getD i []) (Nat.le_trans (hbb i) (by omega))
  have hfx := fun i => p_FromHex (w.getD i []) (hbb i)
  refine ok_ligref30_act _ _ (by simp) ?_
  simp only [c_ligref30_act, ↓Ed, Eu, ↓reduceIte, reduceCtorEq, Nat.reduceAdd, Nat.reduceEqDiff, Nat.reduceLT, Nat.reduceLeDiff, Int.reduceToNat, Int.reduceEq, Int.reduceLT, Int.reduceLE, w64, List.length_append, List.length_map, Nat.mul_one, List.append_assoc, Act.cs, or_self, List.getD_cons_zero, List.getD_cons_succ, gdS, cn0, cn1, cn2, cn3, cn4, cn5, cn6, Nat.reduceMul, Int.reduceAdd, Int.reduceSub, mn_int, Bool.true_and, ne78, ne87]
  repeat' ((first | refine CallO_pure (hpw) ?_ | refine NewB_intro0 (fun b => ?_) | (refine NewB_intro (fun b hb => ?_); simp only [ln_cons2, ln_nil, and_true] at hb) | (with_reducible apply And.intro; (focus (first | omega | (simp only [Fact, Bool.not_eq_true', Bool.not_eq_false', decide_eq_true_eq, decide_eq_false_iff_not] at *; omega)))) | ((first | refine gW_sp ?_ | refine condW_sp ?_ | refine pickW_sp ?_); (try refine Sp_n ?_); (first | refine Sp_t (by assumption) ?_ | refine Sp_f (by assumption) ?_ | refine Sp_split (fun h => ?_) (fun h => ?_)) <;> (first | have h' := Fact_lt h | have h' := Fact_nlt h | have h' := Fact_le h | have h' := Fact_nle h | skip) <;> (try (exfalso; omega))) | refine TreeW_intro (by rfl) ?_ | refine Two_intro ?_ ?_ | exact leK_lit (by simp [LeL, lk, *]) | (show (_ : Nat) ≤ _; omega)) <;> (try simp (disch := omega) only [*, ↓Ed, Eu, ↓reduceIte, reduceCtorEq, Nat.reduceAdd, Nat.reduceEqDiff, Nat.reduceLT, Nat.reduceLeDiff, Int.reduceToNat, Int.reduceEq, Int.reduceLT, Int.reduceLE, w64, List.length_append, List.length_map, Nat.mul_one, List.append_assoc, Act.cs, or_self, List.getD_cons_zero, List.getD_cons_succ, gdS, cn0, cn1, cn2, cn3, cn4, cn5, cn6, Nat.reduceMul, Int.reduceAdd, Int.reduceSub, mn_int, Bool.true_and, ne78, ne87]))
  rename_i d
  obtain ⟨e, hee⟩ : ∃ e, e = b := ⟨b, rfl⟩
  subst hee
  rename _ ∧ _ => he
  refine wpx_loop (fun k : Nat => ⟨lk [(0, .str t), (2, .ptr d 0), (3, .bool false), (4, .sl (some 9) 1 (strs w)), (5, .ptr e 0), (6, .sl (some 9) 1 [[.str []], [.str (wd 1)], [.str (wd 2)], [.str (wd 3)], [.str (wd 4)], [.str (wd 5)], [.str (wd 6)]]), (7, .int .i64 ((k : Int) + 1))], lk [(d, [.int .i64 0, .int .i64 0, .int .i64 0, .int .i64 0, .int .i64 0, .str []]), (e, [.int .i64 (kindU (w.getD 0 []) k), .int .i64 0, .int .i64 0, .int .i64 0, .int .i64 0, .str []])]⟩) (fun k => k ≤ 6) (fun k => 6 - k) 0 (by omega) (Le_lit (by simp [LeL, lk, kindU, he, wd])) ?_
  intro k hk
  have hk7 : k = 0 ∨ k = 1 ∨ k = 2 ∨ k = 3 ∨ k = 4 ∨ k = 5 ∨ k = 6 := by omega
  rcases hk7 with rfl | rfl | rfl | rfl | rfl | rfl | rfl
  case inr.inr.inr.inr.inr.inr =>
    clear hk hbb hpw
    have hk6 : kindU (w.getD 0 []) 6 = 6 := by rw [kindU6]; exact hK
    by_cases hl : w.length = 1
    · have hx : readA w = ⟨6, 0, 0, 0, 0, []⟩ := by
        simp only [readA, hK, hl, hl, Nat.reduceSub]
        simp
      have hq : DocOk w := ⟨by omega, by rw [hK, hl]; rfl, by omega, by omega, by omega, by omega, by omega⟩
      obtain rfl := hY hq
      rw [hx]
      clear hN hY hq hx
      have hm1 : mayA ⟨6, 0, 0, 0, 0, []⟩ = true := by decide
      have hd := p_MayAct ⟨6, 0, 0, 0, 0, []⟩
      have hL := p_Line ⟨6, 0, 0, 0, 0, []⟩ (of_decide_eq_true hm1) (by simp)
      rw [hm1] at hd
      rw [hm1]
      simp (disch := omega) only [hk6, he.1, he.2, ↓Ed, Eu, ↓reduceIte, reduceCtorEq, Nat.reduceAdd, Nat.reduceEqDiff, Nat.reduceLT, Nat.reduceLeDiff, Int.reduceToNat, Int.reduceEq, Int.reduceLT, Int.reduceLE, w64, List.length_append, List.length_map, Nat.mul_one, List.append_assoc, Act.cs, or_self, List.getD_cons_zero, List.getD_cons_succ, gdS, cn0, cn1, cn2, cn3, cn4, cn5, cn6, Nat.reduceMul, Int.reduceAdd, Int.reduceSub, mn_int, Bool.true_and, ne78, ne87]
      repeat' ((first | refine NewB_intro0 (fun b => ?_) | (refine NewB_intro (fun b hb => ?_); simp only [ln_cons2, ln_nil, and_true] at hb) | (with_reducible apply And.intro; (focus (first | omega | (simp only [Fact, Bool.not_eq_true', Bool.not_eq_false', decide_eq_true_eq, decide_eq_false_iff_not] at *; omega)))) | ((first | refine gW_sp ?_ | refine condW_sp ?_ | refine pickW_sp ?_); (try refine Sp_n ?_); (first | refine Sp_t (by assumption) ?_ | refine Sp_f (by assumption) ?_ | refine Sp_split (fun h => ?_) (fun h => ?_)) <;> (first | have h' := Fact_lt h | have h' := Fact_nlt h | have h' := Fact_le h | have h' := Fact_nle h | skip) <;> (try (exfalso; omega))) | refine TreeW_intro (by rfl) ?_ | refine Two_intro ?_ ?_ | exact leK_lit (by simp [LeL, lk, *]) | (show (_ : Nat) ≤ _; omega)) <;> (try simp (disch := omega) only [*, ↓Ed, Eu, ↓reduceIte, reduceCtorEq, Nat.reduceAdd, Nat.reduceEqDiff, Nat.reduceLT, Nat.reduceLeDiff, Int.reduceToNat, Int.reduceEq, Int.reduceLT, Int.reduceLE, w64, List.length_append, List.length_map, Nat.mul_one, List.append_assoc, Act.cs, or_self, List.getD_cons_zero, List.getD_cons_succ, gdS, cn0, cn1, cn2, cn3, cn4, cn5, cn6, Nat.reduceMul, Int.reduceAdd, Int.reduceSub, mn_int, Bool.true_and, ne78, ne87]))
      refine wpx_loop (fun j : Nat => ⟨lk [(0, .str t), (2, .ptr d 0), (3, .bool false), (4, .sl (some 9) 1 (strs w)), (5, .ptr e 0), (8, .int .i64 1), (9, .ptr b 0), (10, .int .i64 (j : Int))], lk [(d, [.int .i64 0, .int .i64 0, .int .i64 0, .int .i64 0, .int .i64 0, .str []]), (e, [.int .i64 6, .int .i64 0, .int .i64 0, .int .i64 0, .int .i64 0, .str []]), (b, [.int .i64 0, .int .i64 0, .int .i64 0])]⟩) (fun j => j ≤ 3) (fun j => 3 - j) 0 (by omega) (Le_lit (by simp [LeL, lk, he, hb])) ?_
      intro j hj
      simp (disch := omega) only [he.1, he.2, hb.1.1, hb.1.2, hb.2.1, hb.2.2, ↓Ed, Eu, ↓reduceIte, reduceCtorEq, Nat.reduceAdd, Nat.reduceEqDiff, Nat.reduceLT, Nat.reduceLeDiff, Int.reduceToNat, Int.reduceEq, Int.reduceLT, Int.reduceLE, w64, List.length_append, List.length_map, Nat.mul_one, List.append_assoc, Act.cs, or_self, List.getD_cons_zero, List.getD_cons_succ, gdS, cn0, cn1, cn2, cn3, cn4, cn5, cn6, Nat.reduceMul, Int.reduceAdd, Int.reduceSub, mn_int, Bool.true_and, ne78, ne87]
      repeat' ((first | refine CallW_intro (hd) ?_ | refine CallW_intro (hL) ?_ | refine NewB_intro0 (fun b => ?_) | (refine NewB_intro (fun b hb => ?_); simp only [ln_cons2, ln_nil, and_true] at hb) | (with_reducible apply And.intro; (focus (first | omega | (simp only [Fact, Bool.not_eq_true', Bool.not_eq_false', decide_eq_true_eq, decide_eq_false_iff_not] at *; omega)))) | ((first | refine gW_sp ?_ | refine condW_sp ?_ | refine pickW_sp ?_); (try refine Sp_n ?_); (first | refine Sp_t (by assumption) ?_ | refine Sp_f (by assumption) ?_ | refine Sp_split (fun h => ?_) (fun h => ?_)) <;> (first | have h' := Fact_lt h | have h' := Fact_nlt h | have h' := Fact_le h | have h' := Fact_nle h | skip) <;> (try (exfalso; omega))) | refine TreeW_intro (by rfl) ?_ | refine Two_intro ?_ ?_ | exact leK_lit (by simp [LeL, lk, *]) | (show (_ : Nat) ≤ _; omega)) <;> (try simp (disch := omega) only [*, ↓Ed, Eu, ↓reduceIte, reduceCtorEq, Nat.reduceAdd, Nat.reduceEqDiff, Nat.reduceLT, Nat.reduceLeDiff, Int.reduceToNat, Int.reduceEq, Int.reduceLT, Int.reduceLE, w64, List.length_append, List.length_map, Nat.mul_one, List.append_assoc, Act.cs, or_self, List.getD_cons_zero, List.getD_cons_succ, gdS, cn0, cn1, cn2, cn3, cn4, cn5, cn6, Nat.reduceMul, Int.reduceAdd, Int.reduceSub, mn_int, Bool.true_and, ne78, ne87]))
      all_goals (try exact Round_lit (j + 1) ⟨Le_lit (by simp [LeL, lk, he, hb]), by omega, by omega⟩)
      all_goals (try simp [*])
    · obtain rfl := hN (fun g => hl (by have := g.l; rw [hK] at this; simpa [want] using this))
      clear hN hY
      have hl' : ¬ ((w.length : Int) = 1) := by omega
      simp (disch := omega) only [hk6, he.1, he.2, ↓Ed, Eu, ↓reduceIte, reduceCtorEq, Nat.reduceAdd, Nat.reduceEqDiff, Nat.reduceLT, Nat.reduceLeDiff, Int.reduceToNat, Int.reduceEq, Int.reduceLT, Int.reduceLE, w64, List.length_append, List.length_map, Nat.mul_one, List.append_assoc, Act.cs, or_self, List.getD_cons_zero, List.getD_cons_succ, gdS, cn0, cn1, cn2, cn3, cn4, cn5, cn6, Nat.reduceMul, Int.reduceAdd, Int.reduceSub, mn_int, Bool.true_and, ne78, ne87]
      repeat' ((first | refine NewB_intro0 (fun b => ?_) | (refine NewB_intro (fun b hb => ?_); simp only [ln_cons2, ln_nil, and_true] at hb) | (with_reducible apply And.intro; (focus (first | omega | (simp only [Fact, Bool.not_eq_true', Bool.not_eq_false', decide_eq_true_eq, decide_eq_false_iff_not] at *; omega)))) | ((first | refine gW_sp ?_ | refine condW_sp ?_ | refine pickW_sp ?_); (try refine Sp_n ?_); (first | refine Sp_t (by assumption) ?_ | refine Sp_f (by assumption) ?_ | refine Sp_split (fun h => ?_) (fun h => ?_)) <;> (first | have h' := Fact_lt h | have h' := Fact_nlt h | have h' := Fact_le h | have h' := Fact_nle h | skip) <;> (try (exfalso; omega))) | refine TreeW_intro (by rfl) ?_ | refine Two_intro ?_ ?_ | exact leK_lit (by simp [LeL, lk, *]) | (show (_ : Nat) ≤ _; omega)) <;> (try simp (disch := omega) only [*, ↓Ed, Eu, ↓reduceIte, reduceCtorEq, Nat.reduceAdd, Nat.reduceEqDiff, Nat.reduceLT, Nat.reduceLeDiff, Int.reduceToNat, Int.reduceEq, Int.reduceLT, Int.reduceLE, w64, List.length_append, List.length_map, Nat.mul_one, List.append_assoc, Act.cs, or_self, List.getD_cons_zero, List.getD_cons_succ, gdS, cn0, cn1, cn2, cn3, cn4, cn5, cn6, Nat.reduceMul, Int.reduceAdd, Int.reduceSub, mn_int, Bool.true_and, ne78, ne87]))
      all_goals (try simp [Act.zero])
  all_goals clear hN hY hnum hfx hbb hpw hK
  all_goals simp (disch := omega) only [he.1, he.2, ↓Ed, Eu, ↓reduceIte, reduceCtorEq, Nat.reduceAdd, Nat.reduceEqDiff, Nat.reduceLT, Nat.reduceLeDiff, Int.reduceToNat, Int.reduceEq, Int.reduceLT, Int.reduceLE, w64, List.length_append, List.length_map, Nat.mul_one, List.append_assoc, Act.cs, or_self, List.getD_cons_zero, List.getD_cons_succ, gdS, cn0, cn1, cn2, cn3, cn4, cn5, cn6, Nat.reduceMul, Int.reduceAdd, Int.reduceSub, mn_int, Bool.true_and, ne78, ne87]
  all_goals repeat' ((first | refine NewB_intro0 (fun b => ?_) | (refine NewB_intro (fun b hb => ?_); simp only [ln_cons2, ln_nil, and_true] at hb) | (with_reducible apply And.intro; (focus (first | omega | (simp only [Fact, Bool.not_eq_true', Bool.not_eq_false', decide_eq_true_eq, decide_eq_false_iff_not] at *; omega)))) | ((first | refine gW_sp ?_ | refine condW_sp ?_ | refine pickW_sp ?_); (try refine Sp_n ?_); (first | refine Sp_t (by assumption) ?_ | refine Sp_f (by assumption) ?_ | refine Sp_split (fun h => ?_) (fun h => ?_)) <;> (first | have h' := Fact_lt h | have h' := Fact_nlt h | have h' := Fact_le h | have h' := Fact_nle h | skip) <;> (try (exfalso; omega))) | refine TreeW_intro (by rfl) ?_ | refine Two_intro ?_ ?_ | exact leK_lit (by simp [LeL, lk, *]) | (show (_ : Nat) ≤ _; omega)) <;> (try simp (disch := omega) only [*, ↓Ed, Eu, ↓reduceIte, reduceCtorEq, Nat.reduceAdd, Nat.reduceEqDiff, Nat.reduceLT, Nat.reduceLeDiff, Int.reduceToNat, Int.reduceEq, Int.reduceLT, Int.reduceLE, w64, List.length_append, List.length_map, Nat.mul_one, List.append_assoc, Act.cs, or_self, List.getD_cons_zero, List.getD_cons_succ, gdS, cn0, cn1, cn2, cn3, cn4, cn5, cn6, Nat.reduceMul, Int.reduceAdd, Int.reduceSub, mn_int, Bool.true_and, ne78, ne87]))
  all_goals (simp only [Fact, Bool.not_eq_true', Bool.not_eq_false', decide_eq_true_eq, decide_eq_false_iff_not] at h; generalize w.getD 0 [] = w0 at *)
  all_goals (try exact Round_lit 1 ⟨Le_lit (by simp [LeL, lk, kindU, h, he]), by omega, by omega⟩)
  all_goals (try exact Round_lit 2 ⟨Le_lit (by simp [LeL, lk, kindU, h, he]), by omega, by omega⟩)
  all_goals (try exact Round_lit 3 ⟨Le_lit (by simp [LeL, lk, kindU, h, he]), by omega, by omega⟩)
  all_goals (try exact Round_lit 4 ⟨Le_lit (by simp [LeL, lk, kindU, h, he]), by omega, by omega⟩)
  all_goals (try exact Round_lit 5 ⟨Le_lit (by simp [LeL, lk, kindU, h, he]), by omega, by omega⟩)
  all_goals (try exact Round_lit 6 ⟨Le_lit (by simp [LeL, lk, kindU, h, he]), by omega, by omega⟩)
end Go.Proofs.YtfkkjhnbbimcaaaDoor
