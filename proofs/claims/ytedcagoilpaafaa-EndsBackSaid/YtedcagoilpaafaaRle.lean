/- chapter 1: numbers in bytes, the document's -/
import Derived.Test.YtedcagoilpaafaaLeb
namespace Go.Proofs.Ytedcagoilpaafaa
set_option linter.all false
set_option maxRecDepth 100000
theorem w64b (c : UInt8) : IntKind.i64.wrap (c.toNat : Int) = c.toNat := w64 (by have := c.toNat_lt; omega)
theorem tm128 (u : Nat) : (u : Int).tmod 128 = ((u % 128 : Nat) : Int) := rfl
theorem td128 (u : Nat) : (u : Int).tdiv 128 = ((u / 128 : Nat) : Int) := rfl
theorem el_hi' (u : Nat) : [[AV.int .u8 (IntKind.u8.wrap (((u % 128 : Nat) : Int) + 128))]] = bts [UInt8.ofNat (u % 128 + 128)] := by
  rw [← el_hi, IntKind.wrap_u8]
  simp only [List.cons.injEq, AV.int.injEq, and_true, true_and]
  omega
theorem p_PutNum (v : Int) : CP Try.prog 18 [.int .i64 v] (.str (pn v)) := by
  have hm := max_big
  refine ok_ligref1_PutNum _ _ (by simp) ?_
  simp only [c_ligref1_PutNum, ↓Ed, Eu, ↓reduceIte, reduceCtorEq, Nat.reduceAdd, Nat.reduceEqDiff, Nat.reduceLT, Nat.reduceLeDiff, Int.reduceToNat, Int.reduceEq, Int.reduceLT, Int.reduceLE, w64, tm128, td128, w64b, List.length_map, List.length_append]
  repeat' (first | (refine NewB_intro0 (fun b => ?_); simp only [↓Ed, Eu, ↓reduceIte, reduceCtorEq, Nat.reduceAdd, Nat.reduceEqDiff, Nat.reduceLT, Nat.reduceLeDiff, Int.reduceToNat, Int.reduceEq, Int.reduceLT, Int.reduceLE, w64, tm128, td128, w64b, List.length_map, List.length_append]) | (refine NewB_intro (fun b hb => ?_); simp only [ln_cons2, ln_nil, and_true] at hb; simp (disch := omega) only [*, ↓Ed, Eu, ↓reduceIte, reduceCtorEq, Nat.reduceAdd, Nat.reduceEqDiff, Nat.reduceLT, Nat.reduceLeDiff, Int.reduceToNat, Int.reduceEq, Int.reduceLT, Int.reduceLE, w64, tm128, td128, w64b, List.length_map, List.length_append]) | (with_reducible apply And.intro; focus (first | omega | (simp only [Fact, Bool.not_eq_true', Bool.not_eq_false', decide_eq_true_eq, decide_eq_false_iff_not] at *; omega)); (try simp (disch := omega) only [*, ↓Ed, Eu, ↓reduceIte, reduceCtorEq, Nat.reduceAdd, Nat.reduceEqDiff, Nat.reduceLT, Nat.reduceLeDiff, Int.reduceToNat, Int.reduceEq, Int.reduceLT, Int.reduceLE, w64, tm128, td128, w64b, List.length_map, List.length_append])) | ((first | refine gW_sp ?_ | refine condW_sp ?_ | refine pickW_sp ?_); (try refine Sp_n ?_); (first | refine Sp_t (by assumption) ?_ | refine Sp_f (by assumption) ?_ | refine Sp_split (fun h => ?_) (fun h => ?_)) <;> (first | have h' := Fact_lt h | have h' := Fact_nlt h | have h' := Fact_le h | have h' := Fact_nle h | skip) <;> (first | (exfalso; omega) | simp (disch := omega) only [*, ↓Ed, Eu, ↓reduceIte, reduceCtorEq, Nat.reduceAdd, Nat.reduceEqDiff, Nat.reduceLT, Nat.reduceLeDiff, Int.reduceToNat, Int.reduceEq, Int.reduceLT, Int.reduceLE, w64, tm128, td128, w64b, List.length_map, List.length_append])) | (show (_ : Nat) ≤ _; omega))
  · simp [pn]; omega
  · simp [pn]; omega
  obtain ⟨n, rfl⟩ : ∃ n : Nat, v = n := ⟨v.toNat, by omega⟩
  have hp : pn n = put7 n := by simp only [pn, if_pos (show (0 ≤ (n : Int) ∧ (n : Int) ≤ 72057594037927935) by omega), Int.toNat_natCast]
  have h8 := pn_len n
  rw [hp] at h8 ⊢
  refine wpx_loop (fun x : List UInt8 × Nat => ⟨lk [(0, .int .i64 (x.2 : Int)), (3, .sl (some 5) 1 (bts x.1))], lk []⟩) (fun x => Fact (x.1 ++ put7 x.2 = put7 n) ∧ x.1.length ≤ 8 ∧ x.2 ≤ 72057594037927935) (fun x => x.2) ([], n) (by simp [Fact]; omega) (Le_lit (by simp [LeL, lk])) ?_
  rintro ⟨out, u⟩ ⟨h1, h2, h3⟩
  simp only at h1 h2 h3
  simp only [↓Ed, Eu, ↓reduceIte, reduceCtorEq, Nat.reduceAdd, Nat.reduceEqDiff, Nat.reduceLT, Nat.reduceLeDiff, Int.reduceToNat, Int.reduceEq, Int.reduceLT, Int.reduceLE, w64, tm128, td128, w64b, List.length_map, List.length_append]
  repeat' (first | (refine NewB_intro0 (fun b => ?_); simp only [↓Ed, Eu, ↓reduceIte, reduceCtorEq, Nat.reduceAdd, Nat.reduceEqDiff, Nat.reduceLT, Nat.reduceLeDiff, Int.reduceToNat, Int.reduceEq, Int.reduceLT, Int.reduceLE, w64, tm128, td128, w64b, List.length_map, List.length_append]) | (refine NewB_intro (fun b hb => ?_); simp only [ln_cons2, ln_nil, and_true] at hb; simp (disch := omega) only [*, ↓Ed, Eu, ↓reduceIte, reduceCtorEq, Nat.reduceAdd, Nat.reduceEqDiff, Nat.reduceLT, Nat.reduceLeDiff, Int.reduceToNat, Int.reduceEq, Int.reduceLT, Int.reduceLE, w64, tm128, td128, w64b, List.length_map, List.length_append]) | (with_reducible apply And.intro; focus (first | omega | (simp only [Fact, Bool.not_eq_true', Bool.not_eq_false', decide_eq_true_eq, decide_eq_false_iff_not] at *; omega)); (try simp (disch := omega) only [*, ↓Ed, Eu, ↓reduceIte, reduceCtorEq, Nat.reduceAdd, Nat.reduceEqDiff, Nat.reduceLT, Nat.reduceLeDiff, Int.reduceToNat, Int.reduceEq, Int.reduceLT, Int.reduceLE, w64, tm128, td128, w64b, List.length_map, List.length_append])) | ((first | refine gW_sp ?_ | refine condW_sp ?_ | refine pickW_sp ?_); (try refine Sp_n ?_); (first | refine Sp_t (by assumption) ?_ | refine Sp_f (by assumption) ?_ | refine Sp_split (fun h => ?_) (fun h => ?_)) <;> (first | have h' := Fact_lt h | have h' := Fact_nlt h | have h' := Fact_le h | have h' := Fact_nle h | skip) <;> (first | (exfalso; omega) | simp (disch := omega) only [*, ↓Ed, Eu, ↓reduceIte, reduceCtorEq, Nat.reduceAdd, Nat.reduceEqDiff, Nat.reduceLT, Nat.reduceLeDiff, Int.reduceToNat, Int.reduceEq, Int.reduceLT, Int.reduceLE, w64, tm128, td128, w64b, List.length_map, List.length_append])) | (show (_ : Nat) ≤ _; omega))
  · rw [el_hi', ← List.map_append]
    rw [put7_hi (by omega), List.append_cons] at h1
    refine Round_lit (out ++ [UInt8.ofNat (u % 128 + 128)], u / 128) ⟨Le_lit (by simp [LeL, lk]), ⟨h1, ?_, by simp only; omega⟩, by simp only; omega⟩
    rw [← show _ = put7 n from h1] at h8
    simp only [List.length_append] at h8 ⊢
    omega
  · rw [put7_lo (by omega)] at h1
    rw [el_lo u (by omega), ← List.map_append, show _ = put7 n from h1, BytesW_map]
    simp only [↓Ed, Eu, ↓reduceIte, reduceCtorEq, Nat.reduceAdd, Nat.reduceEqDiff, Nat.reduceLT, Nat.reduceLeDiff, Int.reduceToNat, Int.reduceEq, Int.reduceLT, Int.reduceLE, w64, tm128, td128, w64b, List.length_map, List.length_append]
theorem nx_at {s : List UInt8} {i : Int} (h : 0 ≤ i ∧ i ≤ s.length) : ∃ n : Nat, i = n ∧ n ≤ s.length := ⟨i.toNat, by omega, by omega⟩
theorem p_NextNum (s : List UInt8) (at' : Int) (hs : s.length ≤ 4611686018427387904) :
    CP Try.prog 37 [.str s, .int .i64 at'] (.tup [.int .i64 (nx s at').1, .int .i64 (nx s at').2.1, .int .i64 (nx s at').2.2]) := by
  refine ok_ligref1_NextNum _ _ (by simp) ?_
  simp only [c_ligref1_NextNum, ↓Ed, Eu, ↓reduceIte, reduceCtorEq, Nat.reduceAdd, Nat.reduceEqDiff, Nat.reduceLT, Nat.reduceLeDiff, Int.reduceToNat, Int.reduceEq, Int.reduceLT, Int.reduceLE, w64, tm128, td128, w64b, List.length_map, List.length_append]
  repeat' (first | (refine NewB_intro0 (fun b => ?_); simp only [↓Ed, Eu, ↓reduceIte, reduceCtorEq, Nat.reduceAdd, Nat.reduceEqDiff, Nat.reduceLT, Nat.reduceLeDiff, Int.reduceToNat, Int.reduceEq, Int.reduceLT, Int.reduceLE, w64, tm128, td128, w64b, List.length_map, List.length_append]) | (refine NewB_intro (fun b hb => ?_); simp only [ln_cons2, ln_nil, and_true] at hb; simp (disch := omega) only [*, ↓Ed, Eu, ↓reduceIte, reduceCtorEq, Nat.reduceAdd, Nat.reduceEqDiff, Nat.reduceLT, Nat.reduceLeDiff, Int.reduceToNat, Int.reduceEq, Int.reduceLT, Int.reduceLE, w64, tm128, td128, w64b, List.length_map, List.length_append]) | (with_reducible apply And.intro; focus (first | omega | (simp only [Fact, Bool.not_eq_true', Bool.not_eq_false', decide_eq_true_eq, decide_eq_false_iff_not] at *; omega)); (try simp (disch := omega) only [*, ↓Ed, Eu, ↓reduceIte, reduceCtorEq, Nat.reduceAdd, Nat.reduceEqDiff, Nat.reduceLT, Nat.reduceLeDiff, Int.reduceToNat, Int.reduceEq, Int.reduceLT, Int.reduceLE, w64, tm128, td128, w64b, List.length_map, List.length_append])) | ((first | refine gW_sp ?_ | refine condW_sp ?_ | refine pickW_sp ?_); (try refine Sp_n ?_); (first | refine Sp_t (by assumption) ?_ | refine Sp_f (by assumption) ?_ | refine Sp_split (fun h => ?_) (fun h => ?_)) <;> (first | have h' := Fact_lt h | have h' := Fact_nlt h | have h' := Fact_le h | have h' := Fact_nle h | skip) <;> (first | (exfalso; omega) | simp (disch := omega) only [*, ↓Ed, Eu, ↓reduceIte, reduceCtorEq, Nat.reduceAdd, Nat.reduceEqDiff, Nat.reduceLT, Nat.reduceLeDiff, Int.reduceToNat, Int.reduceEq, Int.reduceLT, Int.reduceLE, w64, tm128, td128, w64b, List.length_map, List.length_append])) | (show (_ : Nat) ≤ _; omega))
  · simp [nx_out (show ¬ (0 ≤ at' ∧ at' ≤ s.length) by omega)]
  · simp [nx_out (show ¬ (0 ≤ at' ∧ at' ≤ s.length) by omega)]
  obtain ⟨i, rfl, hi⟩ := nx_at (s := s) (i := at') (by omega)
  rw [nx_in hi]
  refine wpx_loop (fun x : Nat × Nat => ⟨lk [(0, .str s), (1, .int .i64 (i + x.2 : Nat)), (7, .int .i64 (x.1 : Int)), (8, .int .i64 (128 ^ x.2 : Nat)), (9, .int .i64 x.2)], lk []⟩)
    (fun x => x.2 ≤ 8 ∧ x.1 < 128 ^ x.2 ∧ Fact (get7 8 (s.drop i) true = comb x.1 x.2 (get7 (8 - x.2) (s.drop (i + x.2)) (decide (x.2 = 0))))) (fun x => 8 - x.2) (0, 0)
    ⟨by omega, by simp, (comb_zero _ (get7_err _ _ _)).symm⟩ (Le_lit (by simp [LeL, lk])) ?_
  rintro ⟨u, k⟩ ⟨h1, h2, h3⟩
  simp only at h1 h2 h3
  have hp : k < 8 → 128 ^ k ≤ 562949953421312 := fun h => Nat.pow_le_pow_right (n := 128) (j := 7) (by omega) (by omega)
  have hq : (s.getD (i + k) 0).toNat % 128 * 128 ^ k ≤ 127 * 128 ^ k := Nat.mul_le_mul_right _ (by omega)
  simp only [↓Ed, Eu, ↓reduceIte, reduceCtorEq, Nat.reduceAdd, Nat.reduceEqDiff, Nat.reduceLT, Nat.reduceLeDiff, Int.reduceToNat, Int.reduceEq, Int.reduceLT, Int.reduceLE, w64, tm128, td128, w64b, List.length_map, List.length_append]
  repeat' (first | (refine NewB_intro0 (fun b => ?_); simp only [↓Ed, Eu, ↓reduceIte, reduceCtorEq, Nat.reduceAdd, Nat.reduceEqDiff, Nat.reduceLT, Nat.reduceLeDiff, Int.reduceToNat, Int.reduceEq, Int.reduceLT, Int.reduceLE, w64, tm128, td128, w64b, List.length_map, List.length_append]) | (refine NewB_intro (fun b hb => ?_); simp only [ln_cons2, ln_nil, and_true] at hb; simp (disch := omega) only [*, ↓Ed, Eu, ↓reduceIte, reduceCtorEq, Nat.reduceAdd, Nat.reduceEqDiff, Nat.reduceLT, Nat.reduceLeDiff, Int.reduceToNat, Int.reduceEq, Int.reduceLT, Int.reduceLE, w64, tm128, td128, w64b, List.length_map, List.length_append]) | (with_reducible apply And.intro; focus (first | omega | (simp only [Fact, Bool.not_eq_true', Bool.not_eq_false', decide_eq_true_eq, decide_eq_false_iff_not] at *; omega)); (try simp (disch := omega) only [*, ↓Ed, Eu, ↓reduceIte, reduceCtorEq, Nat.reduceAdd, Nat.reduceEqDiff, Nat.reduceLT, Nat.reduceLeDiff, Int.reduceToNat, Int.reduceEq, Int.reduceLT, Int.reduceLE, w64, tm128, td128, w64b, List.length_map, List.length_append])) | ((first | refine gW_sp ?_ | refine condW_sp ?_ | refine pickW_sp ?_); (try refine Sp_n ?_); (first | refine Sp_t (by assumption) ?_ | refine Sp_f (by assumption) ?_ | refine Sp_split (fun h => ?_) (fun h => ?_)) <;> (first | have h' := Fact_lt h | have h' := Fact_nlt h | have h' := Fact_le h | have h' := Fact_nle h | skip) <;> (first | (exfalso; omega) | simp (disch := omega) only [*, ↓Ed, Eu, ↓reduceIte, reduceCtorEq, Nat.reduceAdd, Nat.reduceEqDiff, Nat.reduceLT, Nat.reduceLeDiff, Int.reduceToNat, Int.reduceEq, Int.reduceLT, Int.reduceLE, w64, tm128, td128, w64b, List.length_map, List.length_append])) | (show (_ : Nat) ≤ _; omega))
  case' refine_2.refine_2.refine_2 =>
    rw [h3, show 8 - k = 0 by omega]; simp [comb, get7, fin7]
  all_goals
    simp only [Fact, Bool.not_eq_true', Bool.not_eq_false', decide_eq_true_eq, decide_eq_false_iff_not] at *
  · rw [(inv7 (by omega) h3).1 (by omega)]; simp [fin7]
  · rw [(inv7 (by omega) h3).2.2.1 (by omega) (by omega) (by omega)]; simp [fin7]
  · rw [(inv7 (by omega) h3).2.2.2 (by omega) (by omega) (by omega)]
    simp [fin7]; omega
  · rw [(inv7 (by omega) h3).2.2.2 (by omega) (by omega) (by omega)]
    simp [fin7]; omega
  · refine Round_lit (u + (s.getD (i + k) 0).toNat % 128 * 128 ^ k, k + 1) ⟨Le_lit ?_, ⟨by simp only; omega, ?_, (inv7 (by omega) h3).2.1 (by omega) (by omega)⟩, by simp only; omega⟩
    · simp only [LeL, lk_cons, Nat.pow_succ]
      simp
      omega
    · simp only [Nat.pow_succ]
      omega
end Go.Proofs.Ytedcagoilpaafaa
