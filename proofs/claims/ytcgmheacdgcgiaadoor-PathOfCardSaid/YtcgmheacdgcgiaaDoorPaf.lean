/- chapter 3: the document's ParseEnd -/
import Derived.Test.YtcgmheacdgcgiaaDoorPae
import Derived.Test.YtcgmheacdgcgiaaDoorNhq
namespace Go.Proofs.YtcgmheacdgcgiaaDoor
set_option linter.all false
open Go.RowKit
set_option maxRecDepth 100000
theorem c9 : ((9 : Nat) : Int) = 9 := rfl
theorem tk9 (k : Nat) : ((k : Int) + 9).toNat = k + 9 := by omega
theorem dt9 (s : List UInt8) (k : Nat) : List.drop k (List.take (k + 9) s) = List.take 9 (List.drop k s) := by rw [List.drop_take, Nat.add_sub_cancel_left]
theorem occ1 {s : List UInt8} {i : Nat} : Lib.occAt s [47] i = true ↔ i < s.length ∧ s.getD i 0 = 47 := by
  unfold Lib.occAt
  by_cases h : i < s.length
  · rw [List.drop_eq_getElem_cons h, List.getD, List.getElem?_eq_getElem h]
    simp only [List.isPrefixOf_cons₂, List.isPrefixOf_nil_left, Bool.and_true, beq_iff_eq, Option.getD_some]
    exact ⟨fun e => ⟨h, e.symm⟩, fun e => e.2.symm⟩
  · rw [List.drop_eq_nil_of_le (by omega)]
    simp [List.isPrefixOf, h]
theorem occ1f {s : List UInt8} {i : Nat} (h : ¬ (i < s.length ∧ s.getD i 0 = 47)) : Lib.occAt s [47] i = false := by
  rw [← Bool.not_eq_true, occ1]; exact h
theorem cut_at {s : List UInt8} {k : Nat} (hk : k < s.length) (h : s.getD k 0 = 47) (hn : ∀ j, j < k → ¬ s.getD j 0 = 47) : Lib.cut s [47] = (s.take k, s.drop (k + 1), true) := by
  have : Lib.index s [47] = k := Lib.index_first (by omega) (occ1.2 ⟨hk, h⟩) fun j hj => occ1f fun g => hn j hj g.2
  unfold Lib.cut
  rw [this, if_pos (by omega)]
  simp
theorem cut_no {s : List UInt8} (hn : ∀ j, j < s.length → ¬ s.getD j 0 = 47) : Lib.cut s [47] = (s, [], false) := by
  have : Lib.index s [47] = -1 := Lib.index_none fun j _ => occ1f fun g => hn j g.1 g.2
  unfold Lib.cut
  rw [this, if_neg (by omega)]
theorem pre_iff {s : List UInt8} : Lib.hasPrefix s chn = true ↔ s.take 8 = chn := by
  unfold Lib.hasPrefix
  rw [List.isPrefixOf_iff_prefix, List.prefix_iff_eq_take]
  exact eq_comm
theorem front_at {s : List UInt8} {k : Nat} (hk : k < s.length) (h : s.getD k 0 = 47) : (s.drop k).take 9 = [47, 99, 104, 97, 110, 110, 101, 108, 45] ↔ Lib.hasPrefix (s.drop (k + 1)) chn = true := by
  rw [pre_iff, List.drop_eq_getElem_cons hk]
  have : s[k] = 47 := by rw [List.getD, List.getElem?_eq_getElem hk] at h; exact h
  simp [this, chn]
theorem parse_no {s : List UInt8} {k : Nat} (hk : s.length ≤ k) (hn : ∀ j, j < k → ¬ s.getD j 0 = 47) : parseP s = ([], 0, 3) := by
  unfold parseP
  rw [cut_no (fun j hj => hn j (by omega))]
  simp [endP, endOk, Lib.hasPrefix, List.isPrefixOf]
theorem parse_at {s : List UInt8} {k : Nat} (hk : k < s.length) (h : s.getD k 0 = 47) (hn : ∀ j, j < k → ¬ s.getD j 0 = 47) :
    parseP s = if ¬ (s.length - k ≤ 9) ∧ (s.drop k).take 9 = [47, 99, 104, 97, 110, 110, 101, 108, 45] ∧ (numP (s.drop (k + 9))).2 = 0 ∧ mayP (s.take k) (numP (s.drop (k + 9))).1 = true then (s.take k, (numP (s.drop (k + 9))).1, 0) else ([], 0, 3) := by
  unfold parseP
  rw [cut_at hk h hn]
  simp only [endP, endOk, endN]
  simp only [front_at hk h]
  by_cases hp : Lib.hasPrefix (s.drop (k + 1)) chn = true
  · have e : Lib.trimPrefix (s.drop (k + 1)) chn = s.drop (k + 9) := by
      unfold Lib.trimPrefix
      rw [if_pos hp, List.drop_drop]
      rfl
    simp only [e, hp]
    by_cases h9 : s.length - k ≤ 9
    · have : s.drop (k + 9) = [] := List.drop_eq_nil_of_le (by omega)
      rw [this]
      simp [h9, numP]
    · simp [h9]
  · simp [hp]
theorem p_ParseEnd (s : List UInt8) (hs : s.length ≤ 1000000) : CP Tryd.prog 14 [.str s] (.tup [.agg [.str (parseP s).1, .int .i64 (parseP s).2.1], .int .i64 (parseP s).2.2]) := by
  have hm := max_big
  refine ok_ligref1_ParseEnd _ _ (by simp) ?_
  simp only [c_ligref1_ParseEnd, ↓Ed, Eu, ↓reduceIte, reduceCtorEq, Nat.reduceAdd, Nat.reduceEqDiff, Nat.reduceLT, Nat.reduceLeDiff, Int.reduceToNat, Int.reduceEq, Int.reduceLT, Int.reduceLE, w64, st_nil, List.length_append, Nat.reduceMul, List.length_map, w64b, byn, c9, tk9, dt9, List.take_length]
  repeat' (first | (refine NewB_intro0 (fun b => ?_); simp only [↓Ed, Eu, ↓reduceIte, reduceCtorEq, Nat.reduceAdd, Nat.reduceEqDiff, Nat.reduceLT, Nat.reduceLeDiff, Int.reduceToNat, Int.reduceEq, Int.reduceLT, Int.reduceLE, w64, st_nil, List.length_append, Nat.reduceMul, List.length_map, w64b, byn, c9, tk9, dt9, List.take_length]) | (refine NewB_intro (fun b hb => ?_); simp only [ln_cons2, ln_nil, and_true] at hb; simp (disch := omega) only [*, ↓Ed, Eu, ↓reduceIte, reduceCtorEq, Nat.reduceAdd, Nat.reduceEqDiff, Nat.reduceLT, Nat.reduceLeDiff, Int.reduceToNat, Int.reduceEq, Int.reduceLT, Int.reduceLE, w64, st_nil, List.length_append, Nat.reduceMul, List.length_map, w64b, byn, c9, tk9, dt9, List.take_length]) | (with_reducible apply And.intro; (focus (first | omega | (simp only [Fact, Bool.not_eq_true', Bool.not_eq_false', decide_eq_true_eq, decide_eq_false_iff_not] at *; omega))); (try simp (disch := omega) only [*, ↓Ed, Eu, ↓reduceIte, reduceCtorEq, Nat.reduceAdd, Nat.reduceEqDiff, Nat.reduceLT, Nat.reduceLeDiff, Int.reduceToNat, Int.reduceEq, Int.reduceLT, Int.reduceLE, w64, st_nil, List.length_append, Nat.reduceMul, List.length_map, w64b, byn, c9, tk9, dt9, List.take_length])) | ((first | refine gW_sp ?_ | refine condW_sp ?_ | refine pickW_sp ?_); (try refine Sp_n ?_); (first | refine Sp_t (by assumption) ?_ | refine Sp_f (by assumption) ?_ | refine Sp_split (fun h => ?_) (fun h => ?_)) <;> (first | have h' := Fact_lt h | have h' := Fact_nlt h | have h' := Fact_le h | have h' := Fact_nle h | skip) <;> (first | (exfalso; omega) | simp (disch := omega) only [*, ↓Ed, Eu, ↓reduceIte, reduceCtorEq, Nat.reduceAdd, Nat.reduceEqDiff, Nat.reduceLT, Nat.reduceLeDiff, Int.reduceToNat, Int.reduceEq, Int.reduceLT, Int.reduceLE, w64, st_nil, List.length_append, Nat.reduceMul, List.length_map, w64b, byn, c9, tk9, dt9, List.take_length])) | (show (_ : Nat) ≤ _; omega))
  refine wpx_loop (fun k : Nat => ⟨lk [(0, .str s), (2, .ptr b 0), (4, .int .i64 k)], lk [(b, [.str [], .int .i64 0])]⟩) (fun k => k ≤ s.length ∧ Fact (∀ j, j < k → ¬ s.getD j 0 = 47)) (fun k => s.length - k) 0 ⟨by omega, fun j h => by omega⟩ (Le_lit (by simp [LeL, lk])) ?_
  intro k ⟨h1, h2⟩
  simp only [↓Ed, Eu, ↓reduceIte, reduceCtorEq, Nat.reduceAdd, Nat.reduceEqDiff, Nat.reduceLT, Nat.reduceLeDiff, Int.reduceToNat, Int.reduceEq, Int.reduceLT, Int.reduceLE, w64, st_nil, List.length_append, Nat.reduceMul, List.length_map, w64b, byn, c9, tk9, dt9, List.take_length]
  repeat' (first | (refine CallO_pure (p_rNumber _ (by simp only [List.length_drop]; omega)) ?_; simp (disch := omega) only [*, ↓Ed, Eu, ↓reduceIte, reduceCtorEq, Nat.reduceAdd, Nat.reduceEqDiff, Nat.reduceLT, Nat.reduceLeDiff, Int.reduceToNat, Int.reduceEq, Int.reduceLT, Int.reduceLE, w64, st_nil, List.length_append, Nat.reduceMul, List.length_map, w64b, byn, c9, tk9, dt9, List.take_length]) | (refine CallO_pure (p_MayEnd _ _ (by simp only [List.length_take]; omega)) ?_; simp (disch := omega) only [*, ↓Ed, Eu, ↓reduceIte, reduceCtorEq, Nat.reduceAdd, Nat.reduceEqDiff, Nat.reduceLT, Nat.reduceLeDiff, Int.reduceToNat, Int.reduceEq, Int.reduceLT, Int.reduceLE, w64, st_nil, List.length_append, Nat.reduceMul, List.length_map, w64b, byn, c9, tk9, dt9, List.take_length]) | (refine NewB_intro0 (fun b => ?_); simp only [↓Ed, Eu, ↓reduceIte, reduceCtorEq, Nat.reduceAdd, Nat.reduceEqDiff, Nat.reduceLT, Nat.reduceLeDiff, Int.reduceToNat, Int.reduceEq, Int.reduceLT, Int.reduceLE, w64, st_nil, List.length_append, Nat.reduceMul, List.length_map, w64b, byn, c9, tk9, dt9, List.take_length]) | (refine NewB_intro (fun b hb => ?_); simp only [ln_cons2, ln_nil, and_true] at hb; simp (disch := omega) only [*, ↓Ed, Eu, ↓reduceIte, reduceCtorEq, Nat.reduceAdd, Nat.reduceEqDiff, Nat.reduceLT, Nat.reduceLeDiff, Int.reduceToNat, Int.reduceEq, Int.reduceLT, Int.reduceLE, w64, st_nil, List.length_append, Nat.reduceMul, List.length_map, w64b, byn, c9, tk9, dt9, List.take_length]) | (with_reducible apply And.intro; (focus (first | omega | (simp only [Fact, Bool.not_eq_true', Bool.not_eq_false', decide_eq_true_eq, decide_eq_false_iff_not] at *; omega))); (try simp (disch := omega) only [*, ↓Ed, Eu, ↓reduceIte, reduceCtorEq, Nat.reduceAdd, Nat.reduceEqDiff, Nat.reduceLT, Nat.reduceLeDiff, Int.reduceToNat, Int.reduceEq, Int.reduceLT, Int.reduceLE, w64, st_nil, List.length_append, Nat.reduceMul, List.length_map, w64b, byn, c9, tk9, dt9, List.take_length])) | ((first | refine gW_sp ?_ | refine condW_sp ?_ | refine pickW_sp ?_); (try refine Sp_n ?_); (first | refine Sp_t (by assumption) ?_ | refine Sp_f (by assumption) ?_ | refine Sp_split (fun h => ?_) (fun h => ?_)) <;> (first | have h' := Fact_lt h | have h' := Fact_nlt h | have h' := Fact_le h | have h' := Fact_nle h | skip) <;> (first | (exfalso; omega) | simp (disch := omega) only [*, ↓Ed, Eu, ↓reduceIte, reduceCtorEq, Nat.reduceAdd, Nat.reduceEqDiff, Nat.reduceLT, Nat.reduceLeDiff, Int.reduceToNat, Int.reduceEq, Int.reduceLT, Int.reduceLE, w64, st_nil, List.length_append, Nat.reduceMul, List.length_map, w64b, byn, c9, tk9, dt9, List.take_length])) | (show (_ : Nat) ≤ _; omega))
  all_goals (try simp only [Fact, Bool.not_eq_true', Bool.not_eq_false', decide_eq_true_eq, decide_eq_false_iff_not] at *)
  all_goals first
    | (refine Round_lit (k + 1) ⟨Le_lit (by simp [LeL, lk]), ⟨by omega, fun j hj => ?_⟩, by omega⟩
       by_cases e : j = k
       · subst e; assumption
       · exact h2 j (by omega))
    | (rw [parse_no (k := k) (by omega) h2]; exact ⟨rfl, rfl⟩)
    | (rw [parse_at (k := k) (by omega) (by assumption) h2]
       first
         | (rw [if_neg (fun g => g.1 (by omega))]; exact ⟨rfl, rfl⟩)
         | (rw [if_neg (fun g => by simp_all)]; exact ⟨rfl, rfl⟩)
         | (rw [if_pos ⟨by omega, by assumption, by assumption, by assumption⟩]; exact ⟨rfl, rfl⟩))
    | skip
end Go.Proofs.YtcgmheacdgcgiaaDoor
