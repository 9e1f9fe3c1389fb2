/- chapter 3: the document's ReadPath -/
import Derived.Test.YtcgmheacdgcgiaaDoorPah
namespace Go.Proofs.YtcgmheacdgcgiaaDoor
set_option linter.all false
open Go.RowKit
set_option maxRecDepth 100000
theorem c5 : ((5 : Nat) : Int) = 5 := rfl
theorem q_len {s k p c q} (h : OfQ s k p c q) : s.length ≤ 160 := by
  have hw := wordP_len k
  cases h with
  | num hk hp hc hq =>
    have h3 := dig_len3 hc
    have h13 := dig_len13 (c := q) (by omega)
    have := hp.2.1
    simp only [List.length_append, List.length_cons, List.length_nil]; omega
  | base hk hp hc =>
    have h3 := dig_len3 hc
    have := hp.2.1
    simp only [List.length_append, List.length_cons, List.length_nil]; omega
theorem read_long {s} (h : 300 < s.length) : readP s = (0, [], 0, 0, 3) := readP_no fun k p c q g => by
  have := q_len g; omega
theorem read_57 {s} (h : ¬ (pieces s).length = 5) (h2 : ¬ (pieces s).length = 7) : readP s = (0, [], 0, 0, 3) := readP_no fun k p c q g => by
  have := (read_parts g).2.2.1; omega
theorem read_9 {s} (h : ((pieces s).getD 4 []).length < 9) : readP s = (0, [], 0, 0, 3) := readP_no fun k p c q g => by
  obtain ⟨_, e2, _, _, _, e6, _⟩ := read_parts g
  rw [e2] at h
  have := List.length_pos_iff.2 (dig_ne c.toNat)
  rw [itoa_dig e6.1] at h
  simp only [List.length_append, List.length_cons, List.length_nil] at h; omega
theorem drop8 (x : List UInt8) : (chn ++ x).drop 8 = x := by simp [chn]
theorem read_n {s} (h : ¬ (numP (((pieces s).getD 4 []).drop 8)).2 = 0) : readP s = (0, [], 0, 0, 3) := readP_no fun k p c q g => by
  obtain ⟨_, e2, _, _, _, e6, _⟩ := read_parts g
  rw [e2, drop8, num_itoa (by omega)] at h
  exact h rfl
theorem read_f {s} (h7 : (pieces s).length = 7) (h : ¬ (numP ((pieces s).getD 6 [])).2 = 0) : readP s = (0, [], 0, 0, 3) := readP_no fun k p c q g => by
  obtain ⟨_, _, e3, _, _, _, e7⟩ := read_parts g
  rcases e3 with e3 | e3
  · rw [e3.2, num_itoa (by omega)] at h
    exact h rfl
  · omega
theorem read_miss' {s : List UInt8} (h : ∀ k : Nat, k < 8 → 1 ≤ k → ofP k ((pieces s).getD 2 []) (numP (((pieces s).getD 4 []).drop 8)).1 (seqR s) ≠ s) : readP s = (0, [], 0, 0, 3) := readP_no fun k p c q g => by
  obtain ⟨e1, e2, e3, e4, e5, e6, e7⟩ := read_parts g
  have hq : seqR s = q := by
    unfold seqR
    rcases e3 with ⟨h7, h6⟩ | ⟨h7, rfl⟩
    · rw [if_pos h7, h6, num_itoa (by omega)]
    · rw [if_neg (by omega)]
  have := h k.toNat (by omega) (by omega)
  rw [e1, e2, drop8, num_itoa (by omega), hq, show ((k.toNat : Nat) : Int) = k by omega] at this
  exact this g.eq
theorem p_split' (s : List UInt8) (hs : s.length ≤ 500000) : CP Tryd.prog 33 [.str s] (.sl (some 9) 1 ((pieces s).map fun p => [AV.str p])) := by
  rw [pieces_sp]; exact p_split s hs
theorem p_ReadPath (s : List UInt8) (hs : s.length ≤ 1000000) : CP Tryd.prog 24 [.str s] (.tup [.int .i64 (readP s).1, .agg [.str (readP s).2.1, .int .i64 (readP s).2.2.1], .int .i64 (readP s).2.2.2.1, .int .i64 (readP s).2.2.2.2]) := by
  have hm := max_big
  have hp := fun i => Nat.le_trans (pc_len s i) hs
  by_cases h300 : 300 < s.length
  · rw [read_long h300]
    refine ok_ligref1_ReadPath _ _ (by simp) ?_
    simp only [c_ligref1_ReadPath, ↓Ed, Eu, ↓reduceIte, reduceCtorEq, Nat.reduceAdd, Nat.reduceEqDiff, Nat.reduceLT, Nat.reduceLeDiff, Int.reduceToNat, Int.reduceEq, Int.reduceLT, Int.reduceLE, w64, st_nil, List.length_append, Nat.reduceMul, List.length_map, w64b, byn, gd, c7, c5, List.length_drop, List.take_length]
    repeat' (first | (refine NewB_intro0 (fun b => ?_); simp only [↓Ed, Eu, ↓reduceIte, reduceCtorEq, Nat.reduceAdd, Nat.reduceEqDiff, Nat.reduceLT, Nat.reduceLeDiff, Int.reduceToNat, Int.reduceEq, Int.reduceLT, Int.reduceLE, w64, st_nil, List.length_append, Nat.reduceMul, List.length_map, w64b, byn, gd, c7, c5, List.length_drop, List.take_length]) | (refine NewB_intro (fun b hb => ?_); simp only [ln_cons2, ln_nil, and_true] at hb; simp (disch := omega) only [*, ↓Ed, Eu, ↓reduceIte, reduceCtorEq, Nat.reduceAdd, Nat.reduceEqDiff, Nat.reduceLT, Nat.reduceLeDiff, Int.reduceToNat, Int.reduceEq, Int.reduceLT, Int.reduceLE, w64, st_nil, List.length_append, Nat.reduceMul, List.length_map, w64b, byn, gd, c7, c5, List.length_drop, List.take_length]) | (with_reducible apply And.intro; (focus (first | omega | (simp only [Fact, Bool.not_eq_true', Bool.not_eq_false', decide_eq_true_eq, decide_eq_false_iff_not] at *; omega))); (try simp (disch := omega) only [*, ↓Ed, Eu, ↓reduceIte, reduceCtorEq, Nat.reduceAdd, Nat.reduceEqDiff, Nat.reduceLT, Nat.reduceLeDiff, Int.reduceToNat, Int.reduceEq, Int.reduceLT, Int.reduceLE, w64, st_nil, List.length_append, Nat.reduceMul, List.length_map, w64b, byn, gd, c7, c5, List.length_drop, List.take_length])) | ((first | refine gW_sp ?_ | refine condW_sp ?_ | refine pickW_sp ?_); (try refine Sp_n ?_); (first | refine Sp_t (by assumption) ?_ | refine Sp_f (by assumption) ?_ | refine Sp_split (fun h => ?_) (fun h => ?_)) <;> (first | have h' := Fact_lt h | have h' := Fact_nlt h | have h' := Fact_le h | have h' := Fact_nle h | skip) <;> (first | (exfalso; omega) | simp (disch := omega) only [*, ↓Ed, Eu, ↓reduceIte, reduceCtorEq, Nat.reduceAdd, Nat.reduceEqDiff, Nat.reduceLT, Nat.reduceLeDiff, Int.reduceToNat, Int.reduceEq, Int.reduceLT, Int.reduceLE, w64, st_nil, List.length_append, Nat.reduceMul, List.length_map, w64b, byn, gd, c7, c5, List.length_drop, List.take_length])) | (show (_ : Nat) ≤ _; omega))
    all_goals (simp only [Fact, Bool.not_eq_true', Bool.not_eq_false', decide_eq_true_eq, decide_eq_false_iff_not] at *; omega)
  by_cases h5 : (pieces s).length = 5
  · refine ok_ligref1_ReadPath _ _ (by simp) ?_
    simp only [c_ligref1_ReadPath, ↓Ed, Eu, ↓reduceIte, reduceCtorEq, Nat.reduceAdd, Nat.reduceEqDiff, Nat.reduceLT, Nat.reduceLeDiff, Int.reduceToNat, Int.reduceEq, Int.reduceLT, Int.reduceLE, w64, st_nil, List.length_append, Nat.reduceMul, List.length_map, w64b, byn, gd, c7, c5, List.length_drop, List.take_length]
    repeat' (first | (refine CallO_pure (p_split' s (by omega)) ?_; simp (disch := omega) only [*, ↓Ed, Eu, ↓reduceIte, reduceCtorEq, Nat.reduceAdd, Nat.reduceEqDiff, Nat.reduceLT, Nat.reduceLeDiff, Int.reduceToNat, Int.reduceEq, Int.reduceLT, Int.reduceLE, w64, st_nil, List.length_append, Nat.reduceMul, List.length_map, w64b, byn, gd, c7, c5, List.length_drop, List.take_length]) | (refine CallO_pure (p_rNumber _ (by have := hp 4; simp only [List.length_drop]; omega)) ?_; simp (disch := omega) only [*, ↓Ed, Eu, ↓reduceIte, reduceCtorEq, Nat.reduceAdd, Nat.reduceEqDiff, Nat.reduceLT, Nat.reduceLeDiff, Int.reduceToNat, Int.reduceEq, Int.reduceLT, Int.reduceLE, w64, st_nil, List.length_append, Nat.reduceMul, List.length_map, w64b, byn, gd, c7, c5, List.length_drop, List.take_length]) | (refine CallO_pure (p_rNumber _ (hp _)) ?_; simp (disch := omega) only [*, ↓Ed, Eu, ↓reduceIte, reduceCtorEq, Nat.reduceAdd, Nat.reduceEqDiff, Nat.reduceLT, Nat.reduceLeDiff, Int.reduceToNat, Int.reduceEq, Int.reduceLT, Int.reduceLE, w64, st_nil, List.length_append, Nat.reduceMul, List.length_map, w64b, byn, gd, c7, c5, List.length_drop, List.take_length]) | (refine NewB_intro0 (fun b => ?_); simp only [↓Ed, Eu, ↓reduceIte, reduceCtorEq, Nat.reduceAdd, Nat.reduceEqDiff, Nat.reduceLT, Nat.reduceLeDiff, Int.reduceToNat, Int.reduceEq, Int.reduceLT, Int.reduceLE, w64, st_nil, List.length_append, Nat.reduceMul, List.length_map, w64b, byn, gd, c7, c5, List.length_drop, List.take_length]) | (refine NewB_intro (fun b hb => ?_); simp only [ln_cons2, ln_nil, and_true] at hb; simp (disch := omega) only [*, ↓Ed, Eu, ↓reduceIte, reduceCtorEq, Nat.reduceAdd, Nat.reduceEqDiff, Nat.reduceLT, Nat.reduceLeDiff, Int.reduceToNat, Int.reduceEq, Int.reduceLT, Int.reduceLE, w64, st_nil, List.length_append, Nat.reduceMul, List.length_map, w64b, byn, gd, c7, c5, List.length_drop, List.take_length]) | (with_reducible apply And.intro; (focus (first | omega | (simp only [Fact, Bool.not_eq_true', Bool.not_eq_false', decide_eq_true_eq, decide_eq_false_iff_not] at *; omega))); (try simp (disch := omega) only [*, ↓Ed, Eu, ↓reduceIte, reduceCtorEq, Nat.reduceAdd, Nat.reduceEqDiff, Nat.reduceLT, Nat.reduceLeDiff, Int.reduceToNat, Int.reduceEq, Int.reduceLT, Int.reduceLE, w64, st_nil, List.length_append, Nat.reduceMul, List.length_map, w64b, byn, gd, c7, c5, List.length_drop, List.take_length])) | ((first | refine gW_sp ?_ | refine condW_sp ?_ | refine pickW_sp ?_); (try refine Sp_n ?_); (first | refine Sp_t (by assumption) ?_ | refine Sp_f (by assumption) ?_ | refine Sp_split (fun h => ?_) (fun h => ?_)) <;> (first | have h' := Fact_lt h | have h' := Fact_nlt h | have h' := Fact_le h | have h' := Fact_nle h | skip) <;> (first | (exfalso; omega) | simp (disch := omega) only [*, ↓Ed, Eu, ↓reduceIte, reduceCtorEq, Nat.reduceAdd, Nat.reduceEqDiff, Nat.reduceLT, Nat.reduceLeDiff, Int.reduceToNat, Int.reduceEq, Int.reduceLT, Int.reduceLE, w64, st_nil, List.length_append, Nat.reduceMul, List.length_map, w64b, byn, gd, c7, c5, List.length_drop, List.take_length])) | (show (_ : Nat) ≤ _; omega))
    case pos.refine_2.refine_2.right.refine_1 =>
      rename_i b3 _ _ _
      have hq : seqR s = 0 := by unfold seqR; rw [if_neg (by omega)]
      have hoc := fun k : Nat => p_rOf k ((pieces s).getD 2 []) (numP (((pieces s).getD 4 []).drop 8)).1 0 (hp _)
      refine wpx_loop (fun k : Nat => ⟨lk [(0, .str s), (3, .ptr b3 0), (9, .int .i64 0), (11, .ptr b 0), (12, .int .i64 k)], lk [(b3, [.str [], .int .i64 0]), (b, [.str ((pieces s).getD 2 []), .int .i64 (numP (((pieces s).getD 4 []).drop 8)).1])]⟩) (fun k => 1 ≤ k ∧ k ≤ 8 ∧ Fact (∀ j : Nat, j < k → 1 ≤ j → ofP j ((pieces s).getD 2 []) (numP (((pieces s).getD 4 []).drop 8)).1 0 ≠ s)) (fun k => 8 - k) 1 ⟨by omega, by omega, fun j h h2 => by omega⟩ (Le_lit (by simp [LeL, lk, hb])) ?_
      intro k ⟨k1, k2, k3⟩
      simp only [↓Ed, Eu, ↓reduceIte, reduceCtorEq, Nat.reduceAdd, Nat.reduceEqDiff, Nat.reduceLT, Nat.reduceLeDiff, Int.reduceToNat, Int.reduceEq, Int.reduceLT, Int.reduceLE, w64, st_nil, List.length_append, Nat.reduceMul, List.length_map, w64b, byn, gd, c7, c5, List.length_drop, List.take_length]
      repeat' (first | (refine CallO_pure (hoc k) ?_; simp (disch := omega) only [*, ↓Ed, Eu, ↓reduceIte, reduceCtorEq, Nat.reduceAdd, Nat.reduceEqDiff, Nat.reduceLT, Nat.reduceLeDiff, Int.reduceToNat, Int.reduceEq, Int.reduceLT, Int.reduceLE, w64, st_nil, List.length_append, Nat.reduceMul, List.length_map, w64b, byn, gd, c7, c5, List.length_drop, List.take_length]) | (refine NewB_intro0 (fun b => ?_); simp only [↓Ed, Eu, ↓reduceIte, reduceCtorEq, Nat.reduceAdd, Nat.reduceEqDiff, Nat.reduceLT, Nat.reduceLeDiff, Int.reduceToNat, Int.reduceEq, Int.reduceLT, Int.reduceLE, w64, st_nil, List.length_append, Nat.reduceMul, List.length_map, w64b, byn, gd, c7, c5, List.length_drop, List.take_length]) | (refine NewB_intro (fun b hb => ?_); simp only [ln_cons2, ln_nil, and_true] at hb; simp (disch := omega) only [*, ↓Ed, Eu, ↓reduceIte, reduceCtorEq, Nat.reduceAdd, Nat.reduceEqDiff, Nat.reduceLT, Nat.reduceLeDiff, Int.reduceToNat, Int.reduceEq, Int.reduceLT, Int.reduceLE, w64, st_nil, List.length_append, Nat.reduceMul, List.length_map, w64b, byn, gd, c7, c5, List.length_drop, List.take_length]) | (with_reducible apply And.intro; (focus (first | omega | (simp only [Fact, Bool.not_eq_true', Bool.not_eq_false', decide_eq_true_eq, decide_eq_false_iff_not] at *; omega))); (try simp (disch := omega) only [*, ↓Ed, Eu, ↓reduceIte, reduceCtorEq, Nat.reduceAdd, Nat.reduceEqDiff, Nat.reduceLT, Nat.reduceLeDiff, Int.reduceToNat, Int.reduceEq, Int.reduceLT, Int.reduceLE, w64, st_nil, List.length_append, Nat.reduceMul, List.length_map, w64b, byn, gd, c7, c5, List.length_drop, List.take_length])) | ((first | refine gW_sp ?_ | refine condW_sp ?_ | refine pickW_sp ?_); (try refine Sp_n ?_); (first | refine Sp_t (by assumption) ?_ | refine Sp_f (by assumption) ?_ | refine Sp_split (fun h => ?_) (fun h => ?_)) <;> (first | have h' := Fact_lt h | have h' := Fact_nlt h | have h' := Fact_le h | have h' := Fact_nle h | skip) <;> (first | (exfalso; omega) | simp (disch := omega) only [*, ↓Ed, Eu, ↓reduceIte, reduceCtorEq, Nat.reduceAdd, Nat.reduceEqDiff, Nat.reduceLT, Nat.reduceLeDiff, Int.reduceToNat, Int.reduceEq, Int.reduceLT, Int.reduceLE, w64, st_nil, List.length_append, Nat.reduceMul, List.length_map, w64b, byn, gd, c7, c5, List.length_drop, List.take_length])) | (show (_ : Nat) ≤ _; omega))
      all_goals (try simp only [Fact, Bool.not_eq_true', Bool.not_eq_false', decide_eq_true_eq, decide_eq_false_iff_not] at *)
      all_goals first
        | (rw [read_hit (k := k) (by assumption) (by omega)]; simp [*]; done)
        | (rw [read_miss' (fun j hj h1 => by rw [hq]; exact k3 j (by omega) h1)]; exact ⟨rfl, rfl, rfl, rfl⟩)
        | (refine Round_lit (k + 1) ⟨Le_lit (by simp [LeL, lk, hb]), ⟨by omega, by omega, fun j hj h1 => ?_⟩, by omega⟩
           by_cases e : j = k
           · subst e; assumption
           · exact k3 j (by omega) h1)
        | skip
    all_goals (try simp only [Fact, Bool.not_eq_true', Bool.not_eq_false', decide_eq_true_eq, decide_eq_false_iff_not] at *)
    all_goals first
      | (rw [read_9 (by omega)]; exact ⟨rfl, rfl, rfl, rfl⟩)
      | (rw [read_n (by assumption)]; exact ⟨rfl, rfl, rfl, rfl⟩)
      | (rw [read_f h7 (by assumption)]; exact ⟨rfl, rfl, rfl, rfl⟩)
      | skip
  by_cases h7 : (pieces s).length = 7
  · refine ok_ligref1_ReadPath _ _ (by simp) ?_
    simp only [c_ligref1_ReadPath, ↓Ed, Eu, ↓reduceIte, reduceCtorEq, Nat.reduceAdd, Nat.reduceEqDiff, Nat.reduceLT, Nat.reduceLeDiff, Int.reduceToNat, Int.reduceEq, Int.reduceLT, Int.reduceLE, w64, st_nil, List.length_append, Nat.reduceMul, List.length_map, w64b, byn, gd, c7, c5, List.length_drop, List.take_length]
    repeat' (first | (refine CallO_pure (p_split' s (by omega)) ?_; simp (disch := omega) only [*, ↓Ed, Eu, ↓reduceIte, reduceCtorEq, Nat.reduceAdd, Nat.reduceEqDiff, Nat.reduceLT, Nat.reduceLeDiff, Int.reduceToNat, Int.reduceEq, Int.reduceLT, Int.reduceLE, w64, st_nil, List.length_append, Nat.reduceMul, List.length_map, w64b, byn, gd, c7, c5, List.length_drop, List.take_length]) | (refine CallO_pure (p_rNumber _ (by have := hp 4; simp only [List.length_drop]; omega)) ?_; simp (disch := omega) only [*, ↓Ed, Eu, ↓reduceIte, reduceCtorEq, Nat.reduceAdd, Nat.reduceEqDiff, Nat.reduceLT, Nat.reduceLeDiff, Int.reduceToNat, Int.reduceEq, Int.reduceLT, Int.reduceLE, w64, st_nil, List.length_append, Nat.reduceMul, List.length_map, w64b, byn, gd, c7, c5, List.length_drop, List.take_length]) | (refine CallO_pure (p_rNumber _ (hp _)) ?_; simp (disch := omega) only [*, ↓Ed, Eu, ↓reduceIte, reduceCtorEq, Nat.reduceAdd, Nat.reduceEqDiff, Nat.reduceLT, Nat.reduceLeDiff, Int.reduceToNat, Int.reduceEq, Int.reduceLT, Int.reduceLE, w64, st_nil, List.length_append, Nat.reduceMul, List.length_map, w64b, byn, gd, c7, c5, List.length_drop, List.take_length]) | (refine NewB_intro0 (fun b => ?_); simp only [↓Ed, Eu, ↓reduceIte, reduceCtorEq, Nat.reduceAdd, Nat.reduceEqDiff, Nat.reduceLT, Nat.reduceLeDiff, Int.reduceToNat, Int.reduceEq, Int.reduceLT, Int.reduceLE, w64, st_nil, List.length_append, Nat.reduceMul, List.length_map, w64b, byn, gd, c7, c5, List.length_drop, List.take_length]) | (refine NewB_intro (fun b hb => ?_); simp only [ln_cons2, ln_nil, and_true] at hb; simp (disch := omega) only [*, ↓Ed, Eu, ↓reduceIte, reduceCtorEq, Nat.reduceAdd, Nat.reduceEqDiff, Nat.reduceLT, Nat.reduceLeDiff, Int.reduceToNat, Int.reduceEq, Int.reduceLT, Int.reduceLE, w64, st_nil, List.length_append, Nat.reduceMul, List.length_map, w64b, byn, gd, c7, c5, List.length_drop, List.take_length]) | (with_reducible apply And.intro; (focus (first | omega | (simp only [Fact, Bool.not_eq_true', Bool.not_eq_false', decide_eq_true_eq, decide_eq_false_iff_not] at *; omega))); (try simp (disch := omega) only [*, ↓Ed, Eu, ↓reduceIte, reduceCtorEq, Nat.reduceAdd, Nat.reduceEqDiff, Nat.reduceLT, Nat.reduceLeDiff, Int.reduceToNat, Int.reduceEq, Int.reduceLT, Int.reduceLE, w64, st_nil, List.length_append, Nat.reduceMul, List.length_map, w64b, byn, gd, c7, c5, List.length_drop, List.take_length])) | ((first | refine gW_sp ?_ | refine condW_sp ?_ | refine pickW_sp ?_); (try refine Sp_n ?_); (first | refine Sp_t (by assumption) ?_ | refine Sp_f (by assumption) ?_ | refine Sp_split (fun h => ?_) (fun h => ?_)) <;> (first | have h' := Fact_lt h | have h' := Fact_nlt h | have h' := Fact_le h | have h' := Fact_nle h | skip) <;> (first | (exfalso; omega) | simp (disch := omega) only [*, ↓Ed, Eu, ↓reduceIte, reduceCtorEq, Nat.reduceAdd, Nat.reduceEqDiff, Nat.reduceLT, Nat.reduceLeDiff, Int.reduceToNat, Int.reduceEq, Int.reduceLT, Int.reduceLE, w64, st_nil, List.length_append, Nat.reduceMul, List.length_map, w64b, byn, gd, c7, c5, List.length_drop, List.take_length])) | (show (_ : Nat) ≤ _; omega))
    case pos.refine_2.refine_2.right.refine_1.refine_1 =>
      rename_i b3 _ _ _ _
      have hq : seqR s = (numP ((pieces s).getD 6 [])).1 := by unfold seqR; rw [if_pos h7]
      have hoc := fun k : Nat => p_rOf k ((pieces s).getD 2 []) (numP (((pieces s).getD 4 []).drop 8)).1 (numP ((pieces s).getD 6 [])).1 (hp _)
      refine wpx_loop (fun k : Nat => ⟨lk [(0, .str s), (3, .ptr b3 0), (9, .int .i64 (numP ((pieces s).getD 6 [])).1), (11, .ptr b 0), (12, .int .i64 k)], lk [(b3, [.str [], .int .i64 0]), (b, [.str ((pieces s).getD 2 []), .int .i64 (numP (((pieces s).getD 4 []).drop 8)).1])]⟩) (fun k => 1 ≤ k ∧ k ≤ 8 ∧ Fact (∀ j : Nat, j < k → 1 ≤ j → ofP j ((pieces s).getD 2 []) (numP (((pieces s).getD 4 []).drop 8)).1 (numP ((pieces s).getD 6 [])).1 ≠ s)) (fun k => 8 - k) 1 ⟨by omega, by omega, fun j h h2 => by omega⟩ (Le_lit (by simp [LeL, lk, hb])) ?_
      intro k ⟨k1, k2, k3⟩
      simp only [↓Ed, Eu, ↓reduceIte, reduceCtorEq, Nat.reduceAdd, Nat.reduceEqDiff, Nat.reduceLT, Nat.reduceLeDiff, Int.reduceToNat, Int.reduceEq, Int.reduceLT, Int.reduceLE, w64, st_nil, List.length_append, Nat.reduceMul, List.length_map, w64b, byn, gd, c7, c5, List.length_drop, List.take_length]
      repeat' (first | (refine CallO_pure (hoc k) ?_; simp (disch := omega) only [*, ↓Ed, Eu, ↓reduceIte, reduceCtorEq, Nat.reduceAdd, Nat.reduceEqDiff, Nat.reduceLT, Nat.reduceLeDiff, Int.reduceToNat, Int.reduceEq, Int.reduceLT, Int.reduceLE, w64, st_nil, List.length_append, Nat.reduceMul, List.length_map, w64b, byn, gd, c7, c5, List.length_drop, List.take_length]) | (refine NewB_intro0 (fun b => ?_); simp only [↓Ed, Eu, ↓reduceIte, reduceCtorEq, Nat.reduceAdd, Nat.reduceEqDiff, Nat.reduceLT, Nat.reduceLeDiff, Int.reduceToNat, Int.reduceEq, Int.reduceLT, Int.reduceLE, w64, st_nil, List.length_append, Nat.reduceMul, List.length_map, w64b, byn, gd, c7, c5, List.length_drop, List.take_length]) | (refine NewB_intro (fun b hb => ?_); simp only [ln_cons2, ln_nil, and_true] at hb; simp (disch := omega) only [*, ↓Ed, Eu, ↓reduceIte, reduceCtorEq, Nat.reduceAdd, Nat.reduceEqDiff, Nat.reduceLT, Nat.reduceLeDiff, Int.reduceToNat, Int.reduceEq, Int.reduceLT, Int.reduceLE, w64, st_nil, List.length_append, Nat.reduceMul, List.length_map, w64b, byn, gd, c7, c5, List.length_drop, List.take_length]) | (with_reducible apply And.intro; (focus (first | omega | (simp only [Fact, Bool.not_eq_true', Bool.not_eq_false', decide_eq_true_eq, decide_eq_false_iff_not] at *; omega))); (try simp (disch := omega) only [*, ↓Ed, Eu, ↓reduceIte, reduceCtorEq, Nat.reduceAdd, Nat.reduceEqDiff, Nat.reduceLT, Nat.reduceLeDiff, Int.reduceToNat, Int.reduceEq, Int.reduceLT, Int.reduceLE, w64, st_nil, List.length_append, Nat.reduceMul, List.length_map, w64b, byn, gd, c7, c5, List.length_drop, List.take_length])) | ((first | refine gW_sp ?_ | refine condW_sp ?_ | refine pickW_sp ?_); (try refine Sp_n ?_); (first | refine Sp_t (by assumption) ?_ | refine Sp_f (by assumption) ?_ | refine Sp_split (fun h => ?_) (fun h => ?_)) <;> (first | have h' := Fact_lt h | have h' := Fact_nlt h | have h' := Fact_le h | have h' := Fact_nle h | skip) <;> (first | (exfalso; omega) | simp (disch := omega) only [*, ↓Ed, Eu, ↓reduceIte, reduceCtorEq, Nat.reduceAdd, Nat.reduceEqDiff, Nat.reduceLT, Nat.reduceLeDiff, Int.reduceToNat, Int.reduceEq, Int.reduceLT, Int.reduceLE, w64, st_nil, List.length_append, Nat.reduceMul, List.length_map, w64b, byn, gd, c7, c5, List.length_drop, List.take_length])) | (show (_ : Nat) ≤ _; omega))
      all_goals (try simp only [Fact, Bool.not_eq_true', Bool.not_eq_false', decide_eq_true_eq, decide_eq_false_iff_not] at *)
      all_goals first
        | (rw [read_hit (k := k) (by assumption) (by omega)]; simp [*]; done)
        | (rw [read_miss' (fun j hj h1 => by rw [hq]; exact k3 j (by omega) h1)]; exact ⟨rfl, rfl, rfl, rfl⟩)
        | (refine Round_lit (k + 1) ⟨Le_lit (by simp [LeL, lk, hb]), ⟨by omega, by omega, fun j hj h1 => ?_⟩, by omega⟩
           by_cases e : j = k
           · subst e; assumption
           · exact k3 j (by omega) h1)
        | skip
    all_goals (try simp only [Fact, Bool.not_eq_true', Bool.not_eq_false', decide_eq_true_eq, decide_eq_false_iff_not] at *)
    all_goals first
      | (rw [read_9 (by omega)]; exact ⟨rfl, rfl, rfl, rfl⟩)
      | (rw [read_n (by assumption)]; exact ⟨rfl, rfl, rfl, rfl⟩)
      | (rw [read_f h7 (by assumption)]; exact ⟨rfl, rfl, rfl, rfl⟩)
      | skip
  rw [read_57 h5 h7]
  refine ok_ligref1_ReadPath _ _ (by simp) ?_
  simp only [c_ligref1_ReadPath, ↓Ed, Eu, ↓reduceIte, reduceCtorEq, Nat.reduceAdd, Nat.reduceEqDiff, Nat.reduceLT, Nat.reduceLeDiff, Int.reduceToNat, Int.reduceEq, Int.reduceLT, Int.reduceLE, w64, st_nil, List.length_append, Nat.reduceMul, List.length_map, w64b, byn, gd, c7, c5, List.length_drop, List.take_length]
  repeat' (first | (refine CallO_pure (p_split' s (by omega)) ?_; simp (disch := omega) only [*, ↓Ed, Eu, ↓reduceIte, reduceCtorEq, Nat.reduceAdd, Nat.reduceEqDiff, Nat.reduceLT, Nat.reduceLeDiff, Int.reduceToNat, Int.reduceEq, Int.reduceLT, Int.reduceLE, w64, st_nil, List.length_append, Nat.reduceMul, List.length_map, w64b, byn, gd, c7, c5, List.length_drop, List.take_length]) | (refine NewB_intro0 (fun b => ?_); simp only [↓Ed, Eu, ↓reduceIte, reduceCtorEq, Nat.reduceAdd, Nat.reduceEqDiff, Nat.reduceLT, Nat.reduceLeDiff, Int.reduceToNat, Int.reduceEq, Int.reduceLT, Int.reduceLE, w64, st_nil, List.length_append, Nat.reduceMul, List.length_map, w64b, byn, gd, c7, c5, List.length_drop, List.take_length]) | (refine NewB_intro (fun b hb => ?_); simp only [ln_cons2, ln_nil, and_true] at hb; simp (disch := omega) only [*, ↓Ed, Eu, ↓reduceIte, reduceCtorEq, Nat.reduceAdd, Nat.reduceEqDiff, Nat.reduceLT, Nat.reduceLeDiff, Int.reduceToNat, Int.reduceEq, Int.reduceLT, Int.reduceLE, w64, st_nil, List.length_append, Nat.reduceMul, List.length_map, w64b, byn, gd, c7, c5, List.length_drop, List.take_length]) | (with_reducible apply And.intro; (focus (first | omega | (simp only [Fact, Bool.not_eq_true', Bool.not_eq_false', decide_eq_true_eq, decide_eq_false_iff_not] at *; omega))); (try simp (disch := omega) only [*, ↓Ed, Eu, ↓reduceIte, reduceCtorEq, Nat.reduceAdd, Nat.reduceEqDiff, Nat.reduceLT, Nat.reduceLeDiff, Int.reduceToNat, Int.reduceEq, Int.reduceLT, Int.reduceLE, w64, st_nil, List.length_append, Nat.reduceMul, List.length_map, w64b, byn, gd, c7, c5, List.length_drop, List.take_length])) | ((first | refine gW_sp ?_ | refine condW_sp ?_ | refine pickW_sp ?_); (try refine Sp_n ?_); (first | refine Sp_t (by assumption) ?_ | refine Sp_f (by assumption) ?_ | refine Sp_split (fun h => ?_) (fun h => ?_)) <;> (first | have h' := Fact_lt h | have h' := Fact_nlt h | have h' := Fact_le h | have h' := Fact_nle h | skip) <;> (first | (exfalso; omega) | simp (disch := omega) only [*, ↓Ed, Eu, ↓reduceIte, reduceCtorEq, Nat.reduceAdd, Nat.reduceEqDiff, Nat.reduceLT, Nat.reduceLeDiff, Int.reduceToNat, Int.reduceEq, Int.reduceLT, Int.reduceLE, w64, st_nil, List.length_append, Nat.reduceMul, List.length_map, w64b, byn, gd, c7, c5, List.length_drop, List.take_length])) | (show (_ : Nat) ≤ _; omega))
  all_goals (simp only [Fact, Bool.not_eq_true', Bool.not_eq_false', decide_eq_true_eq, decide_eq_false_iff_not] at *; omega)
end Go.Proofs.YtcgmheacdgcgiaaDoor
