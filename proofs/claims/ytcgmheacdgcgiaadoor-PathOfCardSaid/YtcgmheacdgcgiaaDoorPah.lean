/- chapter 3: the document's split, ReadPath -/
import Derived.Test.YtcgmheacdgcgiaaDoorPag
namespace Go.Proofs.YtcgmheacdgcgiaaDoor
set_option linter.all false
open Go.RowKit
set_option maxRecDepth 100000
abbrev strs (l : List (List UInt8)) : List (List AV) := l.map fun p => [AV.str p]
theorem sp_last {s : List UInt8} {f : Nat} (hn : ∀ j, f ≤ j → j < s.length → ¬ s.getD j 0 = 47) : sp (s.drop f) = [s.drop f] := by
  refine sp_none fun hm => ?_
  obtain ⟨j, hj, e⟩ := List.getElem_of_mem hm
  rw [List.length_drop] at hj
  refine hn (f + j) (by omega) (by omega) ?_
  rw [List.getD, List.getElem?_eq_getElem (by omega)]
  simpa using e
theorem sp_mid {s : List UInt8} {f i : Nat} (hf : f ≤ i) (hi : i < s.length) (h47 : s.getD i 0 = 47) (hn : ∀ j, f ≤ j → j < i → ¬ s.getD j 0 = 47) : sp (s.drop f) = List.drop f (List.take i s) :: sp (s.drop (i + 1)) := by
  have h1 : 47 ∉ List.drop f (List.take i s) := by
    intro hm
    obtain ⟨j, hj, e⟩ := List.getElem_of_mem hm
    rw [List.length_drop, List.length_take] at hj
    refine hn (f + j) (by omega) (by omega) ?_
    rw [List.getD, List.getElem?_eq_getElem (by omega)]
    simpa using e
  have h2 : s.drop f = List.drop f (List.take i s) ++ 47 :: s.drop (i + 1) := by
    have e : s[i] = 47 := by rw [List.getD, List.getElem?_eq_getElem hi] at h47; exact h47
    rw [← e, ← List.drop_eq_getElem_cons hi, List.drop_take]
    have : s.drop i = (s.drop f).drop (i - f) := by rw [List.drop_drop]; congr 1; omega
    rw [this, List.take_append_drop]
  rw [h2, sp_cut h1]
def SpI (s : List UInt8) (out : List (List UInt8)) (f i : Nat) : Prop :=
  (i ≤ s.length ∧ f ≤ i ∧ out ++ sp (s.drop f) = sp s ∧ ∀ j, f ≤ j → j < i → ¬ s.getD j 0 = 47) ∨ (i = s.length + 1 ∧ out = sp s)
theorem p_split (s : List UInt8) (hs : s.length ≤ 500000) : CP Tryd.prog 33 [.str s] (.sl (some 9) 1 ((sp s).map fun p => [AV.str p])) := by
  have hm := max_big
  refine ok_ligref1_split _ _ (by simp) ?_
  simp only [c_ligref1_split, ↓Ed, Eu, ↓reduceIte, reduceCtorEq, Nat.reduceAdd, Nat.reduceEqDiff, Nat.reduceLT, Nat.reduceLeDiff, Int.reduceToNat, Int.reduceEq, Int.reduceLT, Int.reduceLE, w64, st_nil, List.length_append, Nat.reduceMul, List.length_map, w64b, byn, gd, c7]
  repeat' (first | (refine NewB_intro0 (fun b => ?_); simp only [↓Ed, Eu, ↓reduceIte, reduceCtorEq, Nat.reduceAdd, Nat.reduceEqDiff, Nat.reduceLT, Nat.reduceLeDiff, Int.reduceToNat, Int.reduceEq, Int.reduceLT, Int.reduceLE, w64, st_nil, List.length_append, Nat.reduceMul, List.length_map, w64b, byn, gd, c7]) | (refine NewB_intro (fun b hb => ?_); simp only [ln_cons2, ln_nil, and_true] at hb; simp (disch := omega) only [*, ↓Ed, Eu, ↓reduceIte, reduceCtorEq, Nat.reduceAdd, Nat.reduceEqDiff, Nat.reduceLT, Nat.reduceLeDiff, Int.reduceToNat, Int.reduceEq, Int.reduceLT, Int.reduceLE, w64, st_nil, List.length_append, Nat.reduceMul, List.length_map, w64b, byn, gd, c7]) | (with_reducible apply And.intro; (focus (first | omega | (simp only [Fact, Bool.not_eq_true', Bool.not_eq_false', decide_eq_true_eq, decide_eq_false_iff_not] at *; omega))); (try simp (disch := omega) only [*, ↓Ed, Eu, ↓reduceIte, reduceCtorEq, Nat.reduceAdd, Nat.reduceEqDiff, Nat.reduceLT, Nat.reduceLeDiff, Int.reduceToNat, Int.reduceEq, Int.reduceLT, Int.reduceLE, w64, st_nil, List.length_append, Nat.reduceMul, List.length_map, w64b, byn, gd, c7])) | ((first | refine gW_sp ?_ | refine condW_sp ?_ | refine pickW_sp ?_); (try refine Sp_n ?_); (first | refine Sp_t (by assumption) ?_ | refine Sp_f (by assumption) ?_ | refine Sp_split (fun h => ?_) (fun h => ?_)) <;> (first | have h' := Fact_lt h | have h' := Fact_nlt h | have h' := Fact_le h | have h' := Fact_nle h | skip) <;> (first | (exfalso; omega) | simp (disch := omega) only [*, ↓Ed, Eu, ↓reduceIte, reduceCtorEq, Nat.reduceAdd, Nat.reduceEqDiff, Nat.reduceLT, Nat.reduceLeDiff, Int.reduceToNat, Int.reduceEq, Int.reduceLT, Int.reduceLE, w64, st_nil, List.length_append, Nat.reduceMul, List.length_map, w64b, byn, gd, c7])) | (show (_ : Nat) ≤ _; omega))
  refine wpx_loop (fun x : List (List UInt8) × Nat × Nat => ⟨lk [(0, .str s), (3, .sl (some 9) 1 (strs x.1)), (4, .int .i64 x.2.1), (5, .int .i64 x.2.2)], lk []⟩) (fun x => x.2.2 ≤ s.length + 1 ∧ x.1.length ≤ x.2.2 ∧ (x.2.2 ≤ s.length → x.2.1 ≤ x.2.2) ∧ Fact (SpI s x.1 x.2.1 x.2.2)) (fun x => s.length + 1 - x.2.2) ([], 0, 0) ⟨by simp, by simp, by simp, .inl ⟨by simp, by simp, by simp, fun j h h2 => by simp only at h2; omega⟩⟩ (Le_lit (by simp [LeL, lk])) ?_
  rintro ⟨out, f, i⟩ ⟨h1, h2, h3, h4⟩
  simp only at h1 h2 h3 h4
  simp only [↓Ed, Eu, ↓reduceIte, reduceCtorEq, Nat.reduceAdd, Nat.reduceEqDiff, Nat.reduceLT, Nat.reduceLeDiff, Int.reduceToNat, Int.reduceEq, Int.reduceLT, Int.reduceLE, w64, st_nil, List.length_append, Nat.reduceMul, List.length_map, w64b, byn, gd, c7]
  repeat' (first | (refine NewB_intro0 (fun b => ?_); simp only [↓Ed, Eu, ↓reduceIte, reduceCtorEq, Nat.reduceAdd, Nat.reduceEqDiff, Nat.reduceLT, Nat.reduceLeDiff, Int.reduceToNat, Int.reduceEq, Int.reduceLT, Int.reduceLE, w64, st_nil, List.length_append, Nat.reduceMul, List.length_map, w64b, byn, gd, c7]) | (refine NewB_intro (fun b hb => ?_); simp only [ln_cons2, ln_nil, and_true] at hb; simp (disch := omega) only [*, ↓Ed, Eu, ↓reduceIte, reduceCtorEq, Nat.reduceAdd, Nat.reduceEqDiff, Nat.reduceLT, Nat.reduceLeDiff, Int.reduceToNat, Int.reduceEq, Int.reduceLT, Int.reduceLE, w64, st_nil, List.length_append, Nat.reduceMul, List.length_map, w64b, byn, gd, c7]) | (with_reducible apply And.intro; (focus (first | omega | (simp only [Fact, Bool.not_eq_true', Bool.not_eq_false', decide_eq_true_eq, decide_eq_false_iff_not] at *; omega))); (try simp (disch := omega) only [*, ↓Ed, Eu, ↓reduceIte, reduceCtorEq, Nat.reduceAdd, Nat.reduceEqDiff, Nat.reduceLT, Nat.reduceLeDiff, Int.reduceToNat, Int.reduceEq, Int.reduceLT, Int.reduceLE, w64, st_nil, List.length_append, Nat.reduceMul, List.length_map, w64b, byn, gd, c7])) | ((first | refine gW_sp ?_ | refine condW_sp ?_ | refine pickW_sp ?_); (try refine Sp_n ?_); (first | refine Sp_t (by assumption) ?_ | refine Sp_f (by assumption) ?_ | refine Sp_split (fun h => ?_) (fun h => ?_)) <;> (first | have h' := Fact_lt h | have h' := Fact_nlt h | have h' := Fact_le h | have h' := Fact_nle h | skip) <;> (first | (exfalso; omega) | simp (disch := omega) only [*, ↓Ed, Eu, ↓reduceIte, reduceCtorEq, Nat.reduceAdd, Nat.reduceEqDiff, Nat.reduceLT, Nat.reduceLeDiff, Int.reduceToNat, Int.reduceEq, Int.reduceLT, Int.reduceLE, w64, st_nil, List.length_append, Nat.reduceMul, List.length_map, w64b, byn, gd, c7])) | (show (_ : Nat) ≤ _; omega))
  all_goals (try simp only [Fact, Bool.not_eq_true', Bool.not_eq_false', decide_eq_true_eq, decide_eq_false_iff_not] at *)
  case refine_2 =>
    rcases h4 with h4 | h4
    · omega
    · rw [h4.2]
  all_goals
    obtain ⟨_, g2, g3, g4⟩ : i ≤ s.length ∧ f ≤ i ∧ out ++ sp (s.drop f) = sp s ∧ ∀ j, f ≤ j → j < i → ¬ s.getD j 0 = 47 := by
      rcases h4 with h4 | h4
      · exact h4
      · omega
  · obtain rfl : i = s.length := by omega
    refine Round_lit (out ++ [List.drop f (List.take s.length s)], s.length + 1, s.length + 1) ⟨Le_lit (by simp [LeL, lk]), ⟨by simp, by simp; omega, by simp, .inr ⟨rfl, ?_⟩⟩, by simp only; omega⟩
    rw [List.take_length, ← g3, sp_last g4]
  · refine Round_lit (out ++ [List.drop f (List.take i s)], i + 1, i + 1) ⟨Le_lit (by simp [LeL, lk]), ⟨by simp only; omega, by simp; omega, by simp, .inl ⟨by simp only; omega, by simp, ?_, fun j hj hj2 => by simp only at hj hj2; omega⟩⟩, by simp only; omega⟩
    rw [← g3, sp_mid g2 (by omega) (by assumption) g4]
    simp
  · refine Round_lit (out, f, i + 1) ⟨Le_lit (by simp [LeL, lk]), ⟨by simp only; omega, by simp only; omega, by simp only; omega, .inl ⟨by simp only; omega, by simp only; omega, g3, fun j hj hj2 => ?_⟩⟩, by simp only; omega⟩
    by_cases e : j = i
    · subst e; assumption
    · exact g4 j hj (by simp only at hj2; omega)
end Go.Proofs.YtcgmheacdgcgiaaDoor
