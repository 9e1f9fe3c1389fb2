/- chapter 20: patterns, the document's: what may be one -/
import Derived.Test.YtedcagoilpaafaaDoorNk
namespace Go.Proofs.YtedcagoilpaafaaDoor
set_option linter.all false
open Go.RowKit
set_option maxRecDepth 100000
set_option maxHeartbeats 2000000 in
theorem p_MayGlob (p : List UInt8) (hs : p.length ≤ 1000000) : CP Tryd.prog 10 [.str p] (.bool (mayG p)) := by
  refine ok_ligref20_MayGlob _ _ (by simp) ?_
  simp only [c_ligref20_MayGlob, ↓Ed, Eu, ↓reduceIte, reduceCtorEq, Nat.reduceAdd, Nat.reduceEqDiff, Nat.reduceLT, Nat.reduceLeDiff, Int.reduceToNat, Int.reduceEq, Int.reduceLT, Int.reduceLE, w64, st_nil]
  repeat' (first | (refine NewB_intro0 (fun b => ?_); simp only [↓Ed, Eu, ↓reduceIte, reduceCtorEq, Nat.reduceAdd, Nat.reduceEqDiff, Nat.reduceLT, Nat.reduceLeDiff, Int.reduceToNat, Int.reduceEq, Int.reduceLT, Int.reduceLE, w64, st_nil]) | (refine NewB_intro (fun b hb => ?_); simp only [ln_cons2, ln_nil, and_true] at hb; simp (disch := omega) only [*, ↓Ed, Eu, ↓reduceIte, reduceCtorEq, Nat.reduceAdd, Nat.reduceEqDiff, Nat.reduceLT, Nat.reduceLeDiff, Int.reduceToNat, Int.reduceEq, Int.reduceLT, Int.reduceLE, w64, st_nil]) | (with_reducible apply And.intro; (focus (first | omega | (simp only [Fact, Bool.not_eq_true', Bool.not_eq_false', decide_eq_true_eq, decide_eq_false_iff_not] at *; omega))); (try simp (disch := omega) only [*, ↓Ed, Eu, ↓reduceIte, reduceCtorEq, Nat.reduceAdd, Nat.reduceEqDiff, Nat.reduceLT, Nat.reduceLeDiff, Int.reduceToNat, Int.reduceEq, Int.reduceLT, Int.reduceLE, w64, st_nil])) | ((first | refine gW_sp ?_ | refine condW_sp ?_ | refine pickW_sp ?_); (try refine Sp_n ?_); (first | refine Sp_t (by assumption) ?_ | refine Sp_f (by assumption) ?_ | refine Sp_split (fun h => ?_) (fun h => ?_)) <;> (first | have h' := Fact_lt h | have h' := Fact_nlt h | have h' := Fact_le h | have h' := Fact_nle h | skip) <;> (first | (exfalso; omega) | simp (disch := omega) only [*, ↓Ed, Eu, ↓reduceIte, reduceCtorEq, Nat.reduceAdd, Nat.reduceEqDiff, Nat.reduceLT, Nat.reduceLeDiff, Int.reduceToNat, Int.reduceEq, Int.reduceLT, Int.reduceLE, w64, st_nil])) | (show (_ : Nat) ≤ _; omega))
  · exact (mayG_f fun g => by simp only [Fact, Bool.not_eq_true', Bool.not_eq_false', decide_eq_true_eq, decide_eq_false_iff_not] at *; have := List.length_pos_iff.2 g.1; omega).symm
  · exact (mayG_f fun g => by simp only [Fact, Bool.not_eq_true', Bool.not_eq_false', decide_eq_true_eq, decide_eq_false_iff_not] at *; have := g.2.1; omega).symm
  refine wpx_loop (fun k : Nat => ⟨lk [(0, .str p), (3, .int .i64 k)], lk []⟩) (fun k => k ≤ p.length ∧ Fact (∀ j, j < k → sgn (p.getD j 0))) (fun k => p.length - k) 0 ⟨by omega, fun j h => by omega⟩ (Le_lit (by simp [LeL, lk])) ?_
  intro k ⟨h1, h2⟩
  simp only [↓Ed, Eu, ↓reduceIte, reduceCtorEq, Nat.reduceAdd, Nat.reduceEqDiff, Nat.reduceLT, Nat.reduceLeDiff, Int.reduceToNat, Int.reduceEq, Int.reduceLT, Int.reduceLE, w64, st_nil]
  repeat' (first | (refine NewB_intro0 (fun b => ?_); simp only [↓Ed, Eu, ↓reduceIte, reduceCtorEq, Nat.reduceAdd, Nat.reduceEqDiff, Nat.reduceLT, Nat.reduceLeDiff, Int.reduceToNat, Int.reduceEq, Int.reduceLT, Int.reduceLE, w64, st_nil]) | (refine NewB_intro (fun b hb => ?_); simp only [ln_cons2, ln_nil, and_true] at hb; simp (disch := omega) only [*, ↓Ed, Eu, ↓reduceIte, reduceCtorEq, Nat.reduceAdd, Nat.reduceEqDiff, Nat.reduceLT, Nat.reduceLeDiff, Int.reduceToNat, Int.reduceEq, Int.reduceLT, Int.reduceLE, w64, st_nil]) | (with_reducible apply And.intro; (focus (first | omega | (simp only [Fact, Bool.not_eq_true', Bool.not_eq_false', decide_eq_true_eq, decide_eq_false_iff_not] at *; omega))); (try simp (disch := omega) only [*, ↓Ed, Eu, ↓reduceIte, reduceCtorEq, Nat.reduceAdd, Nat.reduceEqDiff, Nat.reduceLT, Nat.reduceLeDiff, Int.reduceToNat, Int.reduceEq, Int.reduceLT, Int.reduceLE, w64, st_nil])) | ((first | refine gW_sp ?_ | refine condW_sp ?_ | refine pickW_sp ?_); (try refine Sp_n ?_); (first | refine Sp_t (by assumption) ?_ | refine Sp_f (by assumption) ?_ | refine Sp_split (fun h => ?_) (fun h => ?_)) <;> (first | have h' := Fact_lt h | have h' := Fact_nlt h | have h' := Fact_le h | have h' := Fact_nle h | skip) <;> (first | (exfalso; omega) | simp (disch := omega) only [*, ↓Ed, Eu, ↓reduceIte, reduceCtorEq, Nat.reduceAdd, Nat.reduceEqDiff, Nat.reduceLT, Nat.reduceLeDiff, Int.reduceToNat, Int.reduceEq, Int.reduceLT, Int.reduceLE, w64, st_nil])) | (show (_ : Nat) ≤ _; omega))
  all_goals simp only [Fact, Bool.not_eq_true', Bool.not_eq_false', decide_eq_true_eq, decide_eq_false_iff_not] at *
  all_goals first
    | exact Round_lit (k + 1) ⟨Le_lit (by simp [LeL, lk]), ⟨by omega, sgn_step h2 (by unfold sgn; omega)⟩, by omega⟩
    | exact (mayG_bad (k := k) (by omega) (by unfold sgn; omega)).symm
    | exact mayG_bad (k := k) (by omega) (by unfold sgn; omega)
    | (rw [mayG_end (by omega) h2]; exact (decide_eq_true (by omega)).symm)
theorem plainQ_iff (p : List UInt8) : plainQ p = true ↔ ∀ j, j < p.length → ¬ ((p.getD j 0).toNat = 42 ∨ (p.getD j 0).toNat = 63) := by
  have key : ∀ c : UInt8, (!(c == 42 || c == 63)) = true ↔ ¬ (c.toNat = 42 ∨ c.toNat = 63) := fun c => by
    simp only [Bool.not_eq_true', Bool.or_eq_false_iff, beq_eq_false_iff_ne, ne_eq, not_or]
    constructor
    · rintro ⟨a, b⟩; exact ⟨fun e => a (UInt8.toNat_inj.1 e), fun e => b (UInt8.toNat_inj.1 e)⟩
    · rintro ⟨a, b⟩; exact ⟨fun e => a (by rw [e]; rfl), fun e => b (by rw [e]; rfl)⟩
  unfold plainQ
  rw [List.all_eq_true]
  constructor
  · intro h j hj
    have := h p[j] (List.getElem_mem hj)
    rw [key] at this
    simpa [List.getD, List.getElem?_eq_getElem hj] using this
  · intro h c hc
    obtain ⟨j, hj, rfl⟩ := List.getElem_of_mem hc
    rw [key]
    have := h j hj
    simpa [List.getD, List.getElem?_eq_getElem hj] using this
theorem pl_bad {p : List UInt8} {k : Nat} (hk : k < p.length) (h : (p.getD k 0).toNat = 42 ∨ (p.getD k 0).toNat = 63) : plainP p = false := by
  have : plainQ p = false := Bool.eq_false_iff.2 fun g => (plainQ_iff p).1 g k hk h
  simp [plainP, this]
theorem p_rPlain (p : List UInt8) (hs : p.length ≤ 1000000) : CP Tryd.prog 14 [.str p] (.bool (plainP p)) := by
  refine ok_ligref20_Plain _ _ (by simp) ?_
  simp only [c_ligref20_Plain, ↓Ed, Eu, ↓reduceIte, reduceCtorEq, Nat.reduceAdd, Nat.reduceEqDiff, Nat.reduceLT, Nat.reduceLeDiff, Int.reduceToNat, Int.reduceEq, Int.reduceLT, Int.reduceLE, w64, st_nil]
  repeat' (first | (refine NewB_intro0 (fun b => ?_); simp only [↓Ed, Eu, ↓reduceIte, reduceCtorEq, Nat.reduceAdd, Nat.reduceEqDiff, Nat.reduceLT, Nat.reduceLeDiff, Int.reduceToNat, Int.reduceEq, Int.reduceLT, Int.reduceLE, w64, st_nil]) | (refine NewB_intro (fun b hb => ?_); simp only [ln_cons2, ln_nil, and_true] at hb; simp (disch := omega) only [*, ↓Ed, Eu, ↓reduceIte, reduceCtorEq, Nat.reduceAdd, Nat.reduceEqDiff, Nat.reduceLT, Nat.reduceLeDiff, Int.reduceToNat, Int.reduceEq, Int.reduceLT, Int.reduceLE, w64, st_nil]) | (with_reducible apply And.intro; (focus (first | omega | (simp only [Fact, Bool.not_eq_true', Bool.not_eq_false', decide_eq_true_eq, decide_eq_false_iff_not] at *; omega))); (try simp (disch := omega) only [*, ↓Ed, Eu, ↓reduceIte, reduceCtorEq, Nat.reduceAdd, Nat.reduceEqDiff, Nat.reduceLT, Nat.reduceLeDiff, Int.reduceToNat, Int.reduceEq, Int.reduceLT, Int.reduceLE, w64, st_nil])) | ((first | refine gW_sp ?_ | refine condW_sp ?_ | refine pickW_sp ?_); (try refine Sp_n ?_); (first | refine Sp_t (by assumption) ?_ | refine Sp_f (by assumption) ?_ | refine Sp_split (fun h => ?_) (fun h => ?_)) <;> (first | have h' := Fact_lt h | have h' := Fact_nlt h | have h' := Fact_le h | have h' := Fact_nle h | skip) <;> (first | (exfalso; omega) | simp (disch := omega) only [*, ↓Ed, Eu, ↓reduceIte, reduceCtorEq, Nat.reduceAdd, Nat.reduceEqDiff, Nat.reduceLT, Nat.reduceLeDiff, Int.reduceToNat, Int.reduceEq, Int.reduceLT, Int.reduceLE, w64, st_nil])) | (show (_ : Nat) ≤ _; omega))
  refine wpx_loop (fun k : Nat => ⟨lk [(0, .str p), (3, .int .i64 k)], lk []⟩) (fun k => k ≤ p.length ∧ Fact (∀ j, j < k → ¬ ((p.getD j 0).toNat = 42 ∨ (p.getD j 0).toNat = 63))) (fun k => p.length - k) 0 ⟨by omega, fun j h => by omega⟩ (Le_lit (by simp [LeL, lk])) ?_
  intro k ⟨h1, h2⟩
  simp only [↓Ed, Eu, ↓reduceIte, reduceCtorEq, Nat.reduceAdd, Nat.reduceEqDiff, Nat.reduceLT, Nat.reduceLeDiff, Int.reduceToNat, Int.reduceEq, Int.reduceLT, Int.reduceLE, w64, st_nil]
  repeat' (first | (refine CallO_pure (p_MayGlob p hs) ?_; simp (disch := omega) only [*, ↓Ed, Eu, ↓reduceIte, reduceCtorEq, Nat.reduceAdd, Nat.reduceEqDiff, Nat.reduceLT, Nat.reduceLeDiff, Int.reduceToNat, Int.reduceEq, Int.reduceLT, Int.reduceLE, w64, st_nil]) | (refine NewB_intro0 (fun b => ?_); simp only [↓Ed, Eu, ↓reduceIte, reduceCtorEq, Nat.reduceAdd, Nat.reduceEqDiff, Nat.reduceLT, Nat.reduceLeDiff, Int.reduceToNat, Int.reduceEq, Int.reduceLT, Int.reduceLE, w64, st_nil]) | (refine NewB_intro (fun b hb => ?_); simp only [ln_cons2, ln_nil, and_true] at hb; simp (disch := omega) only [*, ↓Ed, Eu, ↓reduceIte, reduceCtorEq, Nat.reduceAdd, Nat.reduceEqDiff, Nat.reduceLT, Nat.reduceLeDiff, Int.reduceToNat, Int.reduceEq, Int.reduceLT, Int.reduceLE, w64, st_nil]) | (with_reducible apply And.intro; (focus (first | omega | (simp only [Fact, Bool.not_eq_true', Bool.not_eq_false', decide_eq_true_eq, decide_eq_false_iff_not] at *; omega))); (try simp (disch := omega) only [*, ↓Ed, Eu, ↓reduceIte, reduceCtorEq, Nat.reduceAdd, Nat.reduceEqDiff, Nat.reduceLT, Nat.reduceLeDiff, Int.reduceToNat, Int.reduceEq, Int.reduceLT, Int.reduceLE, w64, st_nil])) | ((first | refine gW_sp ?_ | refine condW_sp ?_ | refine pickW_sp ?_); (try refine Sp_n ?_); (first | refine Sp_t (by assumption) ?_ | refine Sp_f (by assumption) ?_ | refine Sp_split (fun h => ?_) (fun h => ?_)) <;> (first | have h' := Fact_lt h | have h' := Fact_nlt h | have h' := Fact_le h | have h' := Fact_nle h | skip) <;> (first | (exfalso; omega) | simp (disch := omega) only [*, ↓Ed, Eu, ↓reduceIte, reduceCtorEq, Nat.reduceAdd, Nat.reduceEqDiff, Nat.reduceLT, Nat.reduceLeDiff, Int.reduceToNat, Int.reduceEq, Int.reduceLT, Int.reduceLE, w64, st_nil])) | (show (_ : Nat) ≤ _; omega))
  all_goals simp only [Fact, Bool.not_eq_true', Bool.not_eq_false', decide_eq_true_eq, decide_eq_false_iff_not] at *
  all_goals first
    | exact Round_lit (k + 1) ⟨Le_lit (by simp [LeL, lk]), ⟨by omega, fun j hj => by by_cases e : j = k; (subst e; omega); exact h2 j (by omega)⟩, by omega⟩
    | exact (pl_bad (k := k) (by omega) (by omega)).symm
    | exact pl_bad (k := k) (by omega) (by omega)
    | (have hq : plainQ p = true := (plainQ_iff p).2 fun j hj => h2 j (by omega)
       simp [plainP, hq]; done)
end Go.Proofs.YtedcagoilpaafaaDoor
