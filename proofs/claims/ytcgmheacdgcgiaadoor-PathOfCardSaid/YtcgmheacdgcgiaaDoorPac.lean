/- chapter 3: the document's texts -/
import Derived.Test.YtcgmheacdgcgiaaDoorPab
namespace Go.Proofs.YtcgmheacdgcgiaaDoor
set_option linter.all false
open Go.RowKit
set_option maxRecDepth 100000
theorem tm10 (u : Nat) : (u : Int).tmod 10 = ((u % 10 : Nat) : Int) := rfl
theorem td10 (u : Nat) : (u : Int).tdiv 10 = ((u / 10 : Nat) : Int) := rfl
theorem w64b (c : UInt8) : IntKind.i64.wrap (c.toNat : Int) = c.toNat := w64 (by have := c.toNat_lt; omega)
theorem el_d (n : Nat) : [[AV.int .u8 (IntKind.u8.wrap (48 + ((n % 10 : Nat) : Int)))]] = bts [UInt8.ofNat (48 + n % 10)] := by
  simp only [bts, List.map_cons, List.map_nil, byteEl, List.cons.injEq, AV.int.injEq, and_true, true_and]
  rw [u8n (by omega), IntKind.wrap_u8]; omega
def digR (u : Nat) (out : List UInt8) : List UInt8 := if u = 0 then out else dig u ++ out
theorem digR_step {u : Nat} (out : List UInt8) (h : 0 < u) : digR (u / 10) (UInt8.ofNat (48 + u % 10) :: out) = digR u out := by
  unfold digR
  rw [if_neg (show ¬ u = 0 by omega)]
  by_cases hu : u < 10
  · rw [if_pos (by omega), dig_lo hu, show u % 10 = u by omega]; rfl
  · rw [if_neg (by omega), dig_hi hu]; simp
theorem digR_first (n : Nat) : digR (n / 10) [UInt8.ofNat (48 + n % 10)] = dig n := by
  by_cases h : n = 0
  · subst h; rw [dig_lo (by omega)]; rfl
  · rw [digR_step [] (by omega)]; unfold digR; rw [if_neg h, List.append_nil]
theorem p_Digits (n : Nat) (hn : n ≤ 72057594037927935) : CP Tryd.prog 11 [.int .i64 n] (.str (dig n)) := by
  have hm := max_big
  have hl := dig_len 16 n (by omega)
  refine ok_ligref1_Digits _ _ (by simp) ?_
  simp only [c_ligref1_Digits, ↓Ed, Eu, ↓reduceIte, reduceCtorEq, Nat.reduceAdd, Nat.reduceEqDiff, Nat.reduceLT, Nat.reduceLeDiff, Int.reduceToNat, Int.reduceEq, Int.reduceLT, Int.reduceLE, w64, st_nil, List.length_append, Nat.reduceMul, tm10, td10, List.length_map, w64b]
  repeat' (first | (refine NewB_intro0 (fun b => ?_); simp only [↓Ed, Eu, ↓reduceIte, reduceCtorEq, Nat.reduceAdd, Nat.reduceEqDiff, Nat.reduceLT, Nat.reduceLeDiff, Int.reduceToNat, Int.reduceEq, Int.reduceLT, Int.reduceLE, w64, st_nil, List.length_append, Nat.reduceMul, tm10, td10, List.length_map, w64b]) | (refine NewB_intro (fun b hb => ?_); simp only [ln_cons2, ln_nil, and_true] at hb; simp (disch := omega) only [*, ↓Ed, Eu, ↓reduceIte, reduceCtorEq, Nat.reduceAdd, Nat.reduceEqDiff, Nat.reduceLT, Nat.reduceLeDiff, Int.reduceToNat, Int.reduceEq, Int.reduceLT, Int.reduceLE, w64, st_nil, List.length_append, Nat.reduceMul, tm10, td10, List.length_map, w64b]) | (with_reducible apply And.intro; (focus (first | omega | (simp only [Fact, Bool.not_eq_true', Bool.not_eq_false', decide_eq_true_eq, decide_eq_false_iff_not] at *; omega))); (try simp (disch := omega) only [*, ↓Ed, Eu, ↓reduceIte, reduceCtorEq, Nat.reduceAdd, Nat.reduceEqDiff, Nat.reduceLT, Nat.reduceLeDiff, Int.reduceToNat, Int.reduceEq, Int.reduceLT, Int.reduceLE, w64, st_nil, List.length_append, Nat.reduceMul, tm10, td10, List.length_map, w64b])) | ((first | refine gW_sp ?_ | refine condW_sp ?_ | refine pickW_sp ?_); (try refine Sp_n ?_); (first | refine Sp_t (by assumption) ?_ | refine Sp_f (by assumption) ?_ | refine Sp_split (fun h => ?_) (fun h => ?_)) <;> (first | have h' := Fact_lt h | have h' := Fact_nlt h | have h' := Fact_le h | have h' := Fact_nle h | skip) <;> (first | (exfalso; omega) | simp (disch := omega) only [*, ↓Ed, Eu, ↓reduceIte, reduceCtorEq, Nat.reduceAdd, Nat.reduceEqDiff, Nat.reduceLT, Nat.reduceLeDiff, Int.reduceToNat, Int.reduceEq, Int.reduceLT, Int.reduceLE, w64, st_nil, List.length_append, Nat.reduceMul, tm10, td10, List.length_map, w64b])) | (show (_ : Nat) ≤ _; omega))
  simp (disch := omega) only [el_d, ↓Ed, Eu, ↓reduceIte, reduceCtorEq, Nat.reduceAdd, Nat.reduceEqDiff, Nat.reduceLT, Nat.reduceLeDiff, Int.reduceToNat, Int.reduceEq, Int.reduceLT, Int.reduceLE, w64, st_nil, List.length_append, Nat.reduceMul, tm10, td10, List.length_map, w64b]
  refine wpx_loop (fun x : List UInt8 × Nat => ⟨lk [(0, .int .i64 (x.2 : Int)), (3, .sl (some 5) 1 (bts x.1))], lk []⟩) (fun x => Fact (digR x.2 x.1 = dig n) ∧ x.1.length ≤ 17 ∧ x.2 ≤ 72057594037927935) (fun x => x.2) ([UInt8.ofNat (48 + n % 10)], n / 10) ⟨digR_first n, by simp, by simp only; omega⟩ (Le_lit (by simp [LeL, lk])) ?_
  rintro ⟨out, u⟩ ⟨h1, h2, h3⟩
  simp only at h1 h2 h3
  simp only [↓Ed, Eu, ↓reduceIte, reduceCtorEq, Nat.reduceAdd, Nat.reduceEqDiff, Nat.reduceLT, Nat.reduceLeDiff, Int.reduceToNat, Int.reduceEq, Int.reduceLT, Int.reduceLE, w64, st_nil, List.length_append, Nat.reduceMul, tm10, td10, List.length_map, w64b]
  repeat' (first | (refine NewB_intro0 (fun b => ?_); simp only [↓Ed, Eu, ↓reduceIte, reduceCtorEq, Nat.reduceAdd, Nat.reduceEqDiff, Nat.reduceLT, Nat.reduceLeDiff, Int.reduceToNat, Int.reduceEq, Int.reduceLT, Int.reduceLE, w64, st_nil, List.length_append, Nat.reduceMul, tm10, td10, List.length_map, w64b]) | (refine NewB_intro (fun b hb => ?_); simp only [ln_cons2, ln_nil, and_true] at hb; simp (disch := omega) only [*, ↓Ed, Eu, ↓reduceIte, reduceCtorEq, Nat.reduceAdd, Nat.reduceEqDiff, Nat.reduceLT, Nat.reduceLeDiff, Int.reduceToNat, Int.reduceEq, Int.reduceLT, Int.reduceLE, w64, st_nil, List.length_append, Nat.reduceMul, tm10, td10, List.length_map, w64b]) | (with_reducible apply And.intro; (focus (first | omega | (simp only [Fact, Bool.not_eq_true', Bool.not_eq_false', decide_eq_true_eq, decide_eq_false_iff_not] at *; omega))); (try simp (disch := omega) only [*, ↓Ed, Eu, ↓reduceIte, reduceCtorEq, Nat.reduceAdd, Nat.reduceEqDiff, Nat.reduceLT, Nat.reduceLeDiff, Int.reduceToNat, Int.reduceEq, Int.reduceLT, Int.reduceLE, w64, st_nil, List.length_append, Nat.reduceMul, tm10, td10, List.length_map, w64b])) | ((first | refine gW_sp ?_ | refine condW_sp ?_ | refine pickW_sp ?_); (try refine Sp_n ?_); (first | refine Sp_t (by assumption) ?_ | refine Sp_f (by assumption) ?_ | refine Sp_split (fun h => ?_) (fun h => ?_)) <;> (first | have h' := Fact_lt h | have h' := Fact_nlt h | have h' := Fact_le h | have h' := Fact_nle h | skip) <;> (first | (exfalso; omega) | simp (disch := omega) only [*, ↓Ed, Eu, ↓reduceIte, reduceCtorEq, Nat.reduceAdd, Nat.reduceEqDiff, Nat.reduceLT, Nat.reduceLeDiff, Int.reduceToNat, Int.reduceEq, Int.reduceLT, Int.reduceLE, w64, st_nil, List.length_append, Nat.reduceMul, tm10, td10, List.length_map, w64b])) | (show (_ : Nat) ≤ _; omega))
  all_goals (try simp only [Fact, Bool.not_eq_true', Bool.not_eq_false', decide_eq_true_eq, decide_eq_false_iff_not] at *)
  · have hl2 : out.length + 1 ≤ 17 := by
      rw [← h1] at hl
      unfold digR at hl
      rw [if_neg (by omega)] at hl
      have := List.length_pos_iff.2 (dig_ne u)
      simp only [List.length_append] at hl; omega
    rw [el_d, ← List.map_append]
    refine Round_lit (UInt8.ofNat (48 + u % 10) :: out, u / 10) ⟨Le_lit (by simp [LeL, lk]), ⟨(digR_step out (by omega)).trans h1, by simp only [List.length_cons]; omega, by simp only; omega⟩, by simp only; omega⟩
  · obtain rfl : u = 0 := by omega
    exact h1
theorem all_dig {s : List UInt8} {k : Nat} (hk : s.length ≤ k) (h : ∀ j, j < k → isDig (s.getD j 0)) : ∀ c ∈ s, isDig c := by
  intro c hc
  obtain ⟨i, hi, rfl⟩ := List.getElem_of_mem hc
  have := h i (by omega)
  rwa [List.getD, List.getElem?_eq_getElem hi] at this
theorem num_bad {s : List UInt8} {k : Nat} (hk : k < s.length) (h : ¬ isDig (s.getD k 0)) : ¬ numQ s := fun g => by
  refine h ?_
  rw [List.getD, List.getElem?_eq_getElem hk]
  exact g.1 _ (List.getElem_mem hk)
theorem p_rNumber (s : List UInt8) (hs : s.length ≤ 1000000) : CP Tryd.prog 10 [.str s] (.tup [.int .i64 (numP s).1, .int .i64 (numP s).2]) := by
  by_cases h0 : s = []
  · subst h0
    refine ok_ligref1_Number _ _ (by simp) ?_
    simp only [c_ligref1_Number, ↓Ed, Eu, ↓reduceIte, reduceCtorEq, Nat.reduceAdd, Nat.reduceEqDiff, Nat.reduceLT, Nat.reduceLeDiff, Int.reduceToNat, Int.reduceEq, Int.reduceLT, Int.reduceLE, w64, st_nil, List.length_append, Nat.reduceMul, tm10, td10, List.length_map, w64b]
    repeat' (first | (refine NewB_intro0 (fun b => ?_); simp only [↓Ed, Eu, ↓reduceIte, reduceCtorEq, Nat.reduceAdd, Nat.reduceEqDiff, Nat.reduceLT, Nat.reduceLeDiff, Int.reduceToNat, Int.reduceEq, Int.reduceLT, Int.reduceLE, w64, st_nil, List.length_append, Nat.reduceMul, tm10, td10, List.length_map, w64b]) | (refine NewB_intro (fun b hb => ?_); simp only [ln_cons2, ln_nil, and_true] at hb; simp (disch := omega) only [*, ↓Ed, Eu, ↓reduceIte, reduceCtorEq, Nat.reduceAdd, Nat.reduceEqDiff, Nat.reduceLT, Nat.reduceLeDiff, Int.reduceToNat, Int.reduceEq, Int.reduceLT, Int.reduceLE, w64, st_nil, List.length_append, Nat.reduceMul, tm10, td10, List.length_map, w64b]) | (with_reducible apply And.intro; (focus (first | omega | (simp only [Fact, Bool.not_eq_true', Bool.not_eq_false', decide_eq_true_eq, decide_eq_false_iff_not] at *; omega))); (try simp (disch := omega) only [*, ↓Ed, Eu, ↓reduceIte, reduceCtorEq, Nat.reduceAdd, Nat.reduceEqDiff, Nat.reduceLT, Nat.reduceLeDiff, Int.reduceToNat, Int.reduceEq, Int.reduceLT, Int.reduceLE, w64, st_nil, List.length_append, Nat.reduceMul, tm10, td10, List.length_map, w64b])) | ((first | refine gW_sp ?_ | refine condW_sp ?_ | refine pickW_sp ?_); (try refine Sp_n ?_); (first | refine Sp_t (by assumption) ?_ | refine Sp_f (by assumption) ?_ | refine Sp_split (fun h => ?_) (fun h => ?_)) <;> (first | have h' := Fact_lt h | have h' := Fact_nlt h | have h' := Fact_le h | have h' := Fact_nle h | skip) <;> (first | (exfalso; omega) | simp (disch := omega) only [*, ↓Ed, Eu, ↓reduceIte, reduceCtorEq, Nat.reduceAdd, Nat.reduceEqDiff, Nat.reduceLT, Nat.reduceLeDiff, Int.reduceToNat, Int.reduceEq, Int.reduceLT, Int.reduceLE, w64, st_nil, List.length_append, Nat.reduceMul, tm10, td10, List.length_map, w64b])) | (show (_ : Nat) ≤ _; omega))
    all_goals simp [numP]
  have hl : ¬ s.length = 0 := fun e => h0 (List.length_eq_zero_iff.1 e)
  refine ok_ligref1_Number _ _ (by simp) ?_
  simp only [c_ligref1_Number, ↓Ed, Eu, ↓reduceIte, reduceCtorEq, Nat.reduceAdd, Nat.reduceEqDiff, Nat.reduceLT, Nat.reduceLeDiff, Int.reduceToNat, Int.reduceEq, Int.reduceLT, Int.reduceLE, w64, st_nil, List.length_append, Nat.reduceMul, tm10, td10, List.length_map, w64b]
  repeat' (first | (refine NewB_intro0 (fun b => ?_); simp only [↓Ed, Eu, ↓reduceIte, reduceCtorEq, Nat.reduceAdd, Nat.reduceEqDiff, Nat.reduceLT, Nat.reduceLeDiff, Int.reduceToNat, Int.reduceEq, Int.reduceLT, Int.reduceLE, w64, st_nil, List.length_append, Nat.reduceMul, tm10, td10, List.length_map, w64b]) | (refine NewB_intro (fun b hb => ?_); simp only [ln_cons2, ln_nil, and_true] at hb; simp (disch := omega) only [*, ↓Ed, Eu, ↓reduceIte, reduceCtorEq, Nat.reduceAdd, Nat.reduceEqDiff, Nat.reduceLT, Nat.reduceLeDiff, Int.reduceToNat, Int.reduceEq, Int.reduceLT, Int.reduceLE, w64, st_nil, List.length_append, Nat.reduceMul, tm10, td10, List.length_map, w64b]) | (with_reducible apply And.intro; (focus (first | omega | (simp only [Fact, Bool.not_eq_true', Bool.not_eq_false', decide_eq_true_eq, decide_eq_false_iff_not] at *; omega))); (try simp (disch := omega) only [*, ↓Ed, Eu, ↓reduceIte, reduceCtorEq, Nat.reduceAdd, Nat.reduceEqDiff, Nat.reduceLT, Nat.reduceLeDiff, Int.reduceToNat, Int.reduceEq, Int.reduceLT, Int.reduceLE, w64, st_nil, List.length_append, Nat.reduceMul, tm10, td10, List.length_map, w64b])) | ((first | refine gW_sp ?_ | refine condW_sp ?_ | refine pickW_sp ?_); (try refine Sp_n ?_); (first | refine Sp_t (by assumption) ?_ | refine Sp_f (by assumption) ?_ | refine Sp_split (fun h => ?_) (fun h => ?_)) <;> (first | have h' := Fact_lt h | have h' := Fact_nlt h | have h' := Fact_le h | have h' := Fact_nle h | skip) <;> (first | (exfalso; omega) | simp (disch := omega) only [*, ↓Ed, Eu, ↓reduceIte, reduceCtorEq, Nat.reduceAdd, Nat.reduceEqDiff, Nat.reduceLT, Nat.reduceLeDiff, Int.reduceToNat, Int.reduceEq, Int.reduceLT, Int.reduceLE, w64, st_nil, List.length_append, Nat.reduceMul, tm10, td10, List.length_map, w64b])) | (show (_ : Nat) ≤ _; omega))
  case' neg.refine_1.right =>
    simp only [Fact, Bool.not_eq_true', Bool.not_eq_false', decide_eq_true_eq, decide_eq_false_iff_not] at *
    contradiction
  refine wpx_loop (fun k : Nat => ⟨lk [(0, .str s), (4, .int .i64 k)], lk []⟩) (fun k => k ≤ s.length ∧ Fact (∀ j, j < k → isDig (s.getD j 0))) (fun k => s.length - k) 0 ⟨by omega, fun j h => by omega⟩ (Le_lit (by simp [LeL, lk])) ?_
  intro k ⟨h1, h2⟩
  simp only [↓Ed, Eu, ↓reduceIte, reduceCtorEq, Nat.reduceAdd, Nat.reduceEqDiff, Nat.reduceLT, Nat.reduceLeDiff, Int.reduceToNat, Int.reduceEq, Int.reduceLT, Int.reduceLE, w64, st_nil, List.length_append, Nat.reduceMul, tm10, td10, List.length_map, w64b]
  repeat' (first | (refine NewB_intro0 (fun b => ?_); simp only [↓Ed, Eu, ↓reduceIte, reduceCtorEq, Nat.reduceAdd, Nat.reduceEqDiff, Nat.reduceLT, Nat.reduceLeDiff, Int.reduceToNat, Int.reduceEq, Int.reduceLT, Int.reduceLE, w64, st_nil, List.length_append, Nat.reduceMul, tm10, td10, List.length_map, w64b]) | (refine NewB_intro (fun b hb => ?_); simp only [ln_cons2, ln_nil, and_true] at hb; simp (disch := omega) only [*, ↓Ed, Eu, ↓reduceIte, reduceCtorEq, Nat.reduceAdd, Nat.reduceEqDiff, Nat.reduceLT, Nat.reduceLeDiff, Int.reduceToNat, Int.reduceEq, Int.reduceLT, Int.reduceLE, w64, st_nil, List.length_append, Nat.reduceMul, tm10, td10, List.length_map, w64b]) | (with_reducible apply And.intro; (focus (first | omega | (simp only [Fact, Bool.not_eq_true', Bool.not_eq_false', decide_eq_true_eq, decide_eq_false_iff_not] at *; omega))); (try simp (disch := omega) only [*, ↓Ed, Eu, ↓reduceIte, reduceCtorEq, Nat.reduceAdd, Nat.reduceEqDiff, Nat.reduceLT, Nat.reduceLeDiff, Int.reduceToNat, Int.reduceEq, Int.reduceLT, Int.reduceLE, w64, st_nil, List.length_append, Nat.reduceMul, tm10, td10, List.length_map, w64b])) | ((first | refine gW_sp ?_ | refine condW_sp ?_ | refine pickW_sp ?_); (try refine Sp_n ?_); (first | refine Sp_t (by assumption) ?_ | refine Sp_f (by assumption) ?_ | refine Sp_split (fun h => ?_) (fun h => ?_)) <;> (first | have h' := Fact_lt h | have h' := Fact_nlt h | have h' := Fact_le h | have h' := Fact_nle h | skip) <;> (first | (exfalso; omega) | simp (disch := omega) only [*, ↓Ed, Eu, ↓reduceIte, reduceCtorEq, Nat.reduceAdd, Nat.reduceEqDiff, Nat.reduceLT, Nat.reduceLeDiff, Int.reduceToNat, Int.reduceEq, Int.reduceLT, Int.reduceLE, w64, st_nil, List.length_append, Nat.reduceMul, tm10, td10, List.length_map, w64b])) | (show (_ : Nat) ≤ _; omega))
  all_goals (try simp only [Fact, Bool.not_eq_true', Bool.not_eq_false', decide_eq_true_eq, decide_eq_false_iff_not, u48] at *)
  case' neg.refine_2.refine_2.right.refine_1.refine_2.refine_2 | neg.refine_2.refine_2.right.refine_2.refine_2 =>
    have hq : numQ s := ⟨all_dig (by omega) h2, fun g => by first | omega | exact absurd g.2 (by assumption)⟩
    clear h2 h1
    refine wpx_loop (fun k : Nat => ⟨lk [(0, .str s), (5, .int .i64 (valD (s.take k))), (6, .int .i64 k)], lk []⟩) (fun k => k ≤ s.length) (fun k => s.length - k) 0 (by omega) (Le_lit (by simp [LeL, lk, valD])) ?_
    intro j h1
    have hv := valD_le hq.1 j h1
    have h17 : 10 ^ j ≤ 10 ^ 17 := Nat.pow_le_pow_right (by omega) (by omega)
    have hlt : valD (s.take j) < 100000000000000000 := by omega
    clear hv h17
    simp only [↓Ed, Eu, ↓reduceIte, reduceCtorEq, Nat.reduceAdd, Nat.reduceEqDiff, Nat.reduceLT, Nat.reduceLeDiff, Int.reduceToNat, Int.reduceEq, Int.reduceLT, Int.reduceLE, w64, st_nil, List.length_append, Nat.reduceMul, tm10, td10, List.length_map, w64b]
    repeat' (first | (refine NewB_intro0 (fun b => ?_); simp only [↓Ed, Eu, ↓reduceIte, reduceCtorEq, Nat.reduceAdd, Nat.reduceEqDiff, Nat.reduceLT, Nat.reduceLeDiff, Int.reduceToNat, Int.reduceEq, Int.reduceLT, Int.reduceLE, w64, st_nil, List.length_append, Nat.reduceMul, tm10, td10, List.length_map, w64b]) | (refine NewB_intro (fun b hb => ?_); simp only [ln_cons2, ln_nil, and_true] at hb; simp (disch := omega) only [*, ↓Ed, Eu, ↓reduceIte, reduceCtorEq, Nat.reduceAdd, Nat.reduceEqDiff, Nat.reduceLT, Nat.reduceLeDiff, Int.reduceToNat, Int.reduceEq, Int.reduceLT, Int.reduceLE, w64, st_nil, List.length_append, Nat.reduceMul, tm10, td10, List.length_map, w64b]) | (with_reducible apply And.intro; (focus (first | omega | (simp only [Fact, Bool.not_eq_true', Bool.not_eq_false', decide_eq_true_eq, decide_eq_false_iff_not] at *; omega))); (try simp (disch := omega) only [*, ↓Ed, Eu, ↓reduceIte, reduceCtorEq, Nat.reduceAdd, Nat.reduceEqDiff, Nat.reduceLT, Nat.reduceLeDiff, Int.reduceToNat, Int.reduceEq, Int.reduceLT, Int.reduceLE, w64, st_nil, List.length_append, Nat.reduceMul, tm10, td10, List.length_map, w64b])) | ((first | refine gW_sp ?_ | refine condW_sp ?_ | refine pickW_sp ?_); (try refine Sp_n ?_); (first | refine Sp_t (by assumption) ?_ | refine Sp_f (by assumption) ?_ | refine Sp_split (fun h => ?_) (fun h => ?_)) <;> (first | have h' := Fact_lt h | have h' := Fact_nlt h | have h' := Fact_le h | have h' := Fact_nle h | skip) <;> (first | (exfalso; omega) | simp (disch := omega) only [*, ↓Ed, Eu, ↓reduceIte, reduceCtorEq, Nat.reduceAdd, Nat.reduceEqDiff, Nat.reduceLT, Nat.reduceLeDiff, Int.reduceToNat, Int.reduceEq, Int.reduceLT, Int.reduceLE, w64, st_nil, List.length_append, Nat.reduceMul, tm10, td10, List.length_map, w64b])) | (show (_ : Nat) ≤ _; omega))
  all_goals (try simp only [Fact, Bool.not_eq_true', Bool.not_eq_false', decide_eq_true_eq, decide_eq_false_iff_not, u48] at *)
  all_goals first
    | (refine Round_lit (k + 1) ⟨Le_lit (by simp [LeL, lk]), ⟨by omega, fun j hj => ?_⟩, by omega⟩
       by_cases e : j = k
       · subst e; unfold isDig; omega
       · exact h2 j (by omega))
    | (rw [numP_form h0 (num_bad (k := k) (by omega) (by unfold isDig; omega))]; exact ⟨rfl, rfl⟩)
    | (rw [numP_form h0 (fun g => g.2 ⟨by omega, by assumption⟩)]; exact ⟨rfl, rfl⟩)
    | (have h3 : 17 < s.length := by omega
       have hq : numQ s := ⟨all_dig (k := k) (by omega) h2, fun g => absurd g.2 (by assumption)⟩
       rw [numP_long hq h3]; exact ⟨rfl, rfl⟩)
    | (obtain rfl : j = s.length := by omega
       rw [List.take_length] at *
       first
         | (rw [numP_big h0 hq (by omega) (by omega)]; exact ⟨rfl, rfl⟩)
         | (rw [numP_ok h0 hq (by omega) (by omega)]; exact ⟨rfl, rfl⟩))
    | (have hd := dig_at hq.1 (k := j) (by omega)
       simp only [wsub hd]
       refine Round_lit (j + 1) ⟨Le_lit ?_, by omega, by omega⟩
       rw [valD_take (by omega)]
       generalize (s.getD j 0).toNat = y at *
       simp [LeL, lk]
       rw [IntKind.wrap_i64, IntKind.wrap_i64]; omega)
    | skip
end Go.Proofs.YtcgmheacdgcgiaaDoor
