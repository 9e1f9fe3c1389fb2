/- chapter 1: numbers in bytes -/
import Derived.Test.YtedcagoilpaafaaCode
import Derived.Test.YtedcagoilpaafaaNa
namespace Go.Proofs.Ytedcagoilpaafaa
set_option linter.all false
set_option maxRecDepth 100000
theorem max_big : 1000000 ≤ maxLen := by unfold maxLen; decide
abbrev bts (l : List UInt8) : List (List AV) := l.map byteEl
theorem p_may (v : Int) : CP Try.prog 40 [.int .i64 v] (.bool (decide (0 ≤ v ∧ v ≤ 72057594037927935))) := by
  refine ok_leb_may _ _ (by simp) ?_
  simp only [c_leb_may, ↓Ed, Eu, ↓reduceIte, reduceCtorEq, Nat.reduceAdd, Nat.reduceEqDiff, Nat.reduceLT, Nat.reduceLeDiff, Int.reduceToNat, Int.reduceEq, Int.reduceLT, Int.reduceLE, w64, or128, shr7, List.length_map, List.length_append]
  repeat' (first | (refine NewB_intro0 (fun b => ?_); simp only [↓Ed, Eu, ↓reduceIte, reduceCtorEq, Nat.reduceAdd, Nat.reduceEqDiff, Nat.reduceLT, Nat.reduceLeDiff, Int.reduceToNat, Int.reduceEq, Int.reduceLT, Int.reduceLE, w64, or128, shr7, List.length_map, List.length_append]) | (refine NewB_intro (fun b hb => ?_); simp only [ln_cons2, ln_nil, and_true] at hb; simp (disch := omega) only [*, ↓Ed, Eu, ↓reduceIte, reduceCtorEq, Nat.reduceAdd, Nat.reduceEqDiff, Nat.reduceLT, Nat.reduceLeDiff, Int.reduceToNat, Int.reduceEq, Int.reduceLT, Int.reduceLE, w64, or128, shr7, List.length_map, List.length_append]) | (with_reducible apply And.intro; focus (first | omega | (simp only [Fact, Bool.not_eq_true', Bool.not_eq_false', decide_eq_true_eq, decide_eq_false_iff_not] at *; omega)); (try simp (disch := omega) only [*, ↓Ed, Eu, ↓reduceIte, reduceCtorEq, Nat.reduceAdd, Nat.reduceEqDiff, Nat.reduceLT, Nat.reduceLeDiff, Int.reduceToNat, Int.reduceEq, Int.reduceLT, Int.reduceLE, w64, or128, shr7, List.length_map, List.length_append])) | ((first | refine gW_sp ?_ | refine condW_sp ?_ | refine pickW_sp ?_); (try refine Sp_n ?_); (first | refine Sp_t (by assumption) ?_ | refine Sp_f (by assumption) ?_ | refine Sp_split (fun h => ?_) (fun h => ?_)) <;> (first | have h' := Fact_lt h | have h' := Fact_nlt h | have h' := Fact_le h | have h' := Fact_nle h | skip) <;> (first | (exfalso; omega) | simp (disch := omega) only [*, ↓Ed, Eu, ↓reduceIte, reduceCtorEq, Nat.reduceAdd, Nat.reduceEqDiff, Nat.reduceLT, Nat.reduceLeDiff, Int.reduceToNat, Int.reduceEq, Int.reduceLT, Int.reduceLE, w64, or128, shr7, List.length_map, List.length_append])) | (show (_ : Nat) ≤ _; omega))
  all_goals (try simp only [Fact, Bool.not_eq_true', Bool.not_eq_false', decide_eq_true_eq, decide_eq_false_iff_not] at *)
  all_goals simp [*]
  all_goals omega
theorem u8b (b : UInt8) : [AV.int .u8 (b.toNat : Int)] = byteEl b := rfl
theorem el_hi (u : Nat) : [[AV.int .u8 ((u % 128 + 128 : Nat) : Int)]] = bts [UInt8.ofNat (u % 128 + 128)] := by
  have : (UInt8.ofNat (u % 128 + 128)).toNat = u % 128 + 128 := by rw [UInt8.toNat_ofNat']; omega
  show [[AV.int .u8 _]] = [[AV.int .u8 (((UInt8.ofNat (u % 128 + 128)).toNat : Nat) : Int)]]
  rw [this]
theorem el_lo (u : Nat) (h : u < 128) : [[AV.int .u8 (IntKind.u8.wrap (u : Int))]] = bts [UInt8.ofNat u] := by
  have : (UInt8.ofNat u).toNat = u := by rw [UInt8.toNat_ofNat']; omega
  simp only [List.map_cons, List.map_nil, byteEl, this, IntKind.wrap_u8, List.cons.injEq, AV.int.injEq, and_true, true_and]
  omega
theorem p_Put (v : Int) : CP Try.prog 31 [.int .i64 v] (.str (pn v)) := by
  have hm := max_big
  refine ok_leb_Put _ _ (by simp) ?_
  simp only [c_leb_Put, ↓Ed, Eu, ↓reduceIte, reduceCtorEq, Nat.reduceAdd, Nat.reduceEqDiff, Nat.reduceLT, Nat.reduceLeDiff, Int.reduceToNat, Int.reduceEq, Int.reduceLT, Int.reduceLE, w64, or128, shr7, List.length_map, List.length_append]
  repeat' (first | (refine CallO_pure (p_may _) ?_; simp (disch := omega) only [*, ↓Ed, Eu, ↓reduceIte, reduceCtorEq, Nat.reduceAdd, Nat.reduceEqDiff, Nat.reduceLT, Nat.reduceLeDiff, Int.reduceToNat, Int.reduceEq, Int.reduceLT, Int.reduceLE, w64, or128, shr7, List.length_map, List.length_append]) | (refine NewB_intro0 (fun b => ?_); simp only [↓Ed, Eu, ↓reduceIte, reduceCtorEq, Nat.reduceAdd, Nat.reduceEqDiff, Nat.reduceLT, Nat.reduceLeDiff, Int.reduceToNat, Int.reduceEq, Int.reduceLT, Int.reduceLE, w64, or128, shr7, List.length_map, List.length_append]) | (refine NewB_intro (fun b hb => ?_); simp only [ln_cons2, ln_nil, and_true] at hb; simp (disch := omega) only [*, ↓Ed, Eu, ↓reduceIte, reduceCtorEq, Nat.reduceAdd, Nat.reduceEqDiff, Nat.reduceLT, Nat.reduceLeDiff, Int.reduceToNat, Int.reduceEq, Int.reduceLT, Int.reduceLE, w64, or128, shr7, List.length_map, List.length_append]) | (with_reducible apply And.intro; focus (first | omega | (simp only [Fact, Bool.not_eq_true', Bool.not_eq_false', decide_eq_true_eq, decide_eq_false_iff_not] at *; omega)); (try simp (disch := omega) only [*, ↓Ed, Eu, ↓reduceIte, reduceCtorEq, Nat.reduceAdd, Nat.reduceEqDiff, Nat.reduceLT, Nat.reduceLeDiff, Int.reduceToNat, Int.reduceEq, Int.reduceLT, Int.reduceLE, w64, or128, shr7, List.length_map, List.length_append])) | ((first | refine gW_sp ?_ | refine condW_sp ?_ | refine pickW_sp ?_); (try refine Sp_n ?_); (first | refine Sp_t (by assumption) ?_ | refine Sp_f (by assumption) ?_ | refine Sp_split (fun h => ?_) (fun h => ?_)) <;> (first | have h' := Fact_lt h | have h' := Fact_nlt h | have h' := Fact_le h | have h' := Fact_nle h | skip) <;> (first | (exfalso; omega) | simp (disch := omega) only [*, ↓Ed, Eu, ↓reduceIte, reduceCtorEq, Nat.reduceAdd, Nat.reduceEqDiff, Nat.reduceLT, Nat.reduceLeDiff, Int.reduceToNat, Int.reduceEq, Int.reduceLT, Int.reduceLE, w64, or128, shr7, List.length_map, List.length_append])) | (show (_ : Nat) ≤ _; omega))
  · have hv := of_decide_eq_true h
    have hp : pn v = put7 v.toNat := by simp only [pn, if_pos hv]
    have h8 := pn_len v
    rw [hp] at h8 ⊢
    refine wpx_loop (fun x : List UInt8 × Nat => ⟨lk [(3, .sl (some 5) 1 (bts x.1)), (4, .int .u64 (x.2 : Int))], lk []⟩) (fun x => x.1 ++ put7 x.2 = put7 v.toNat ∧ x.1.length ≤ 8) (fun x => x.2) ([], v.toNat) (by simp) (Le_lit (by simp [LeL, lk, IntKind.wrap_u64]; omega)) ?_
    rintro ⟨out, u⟩ ⟨h1, h2⟩
    simp only at h1 h2
    simp only [↓Ed, Eu, ↓reduceIte, reduceCtorEq, Nat.reduceAdd, Nat.reduceEqDiff, Nat.reduceLT, Nat.reduceLeDiff, Int.reduceToNat, Int.reduceEq, Int.reduceLT, Int.reduceLE, w64, or128, shr7, List.length_map, List.length_append]
    repeat' (first | (refine NewB_intro0 (fun b => ?_); simp only [↓Ed, Eu, ↓reduceIte, reduceCtorEq, Nat.reduceAdd, Nat.reduceEqDiff, Nat.reduceLT, Nat.reduceLeDiff, Int.reduceToNat, Int.reduceEq, Int.reduceLT, Int.reduceLE, w64, or128, shr7, List.length_map, List.length_append]) | (refine NewB_intro (fun b hb => ?_); simp only [ln_cons2, ln_nil, and_true] at hb; simp (disch := omega) only [*, ↓Ed, Eu, ↓reduceIte, reduceCtorEq, Nat.reduceAdd, Nat.reduceEqDiff, Nat.reduceLT, Nat.reduceLeDiff, Int.reduceToNat, Int.reduceEq, Int.reduceLT, Int.reduceLE, w64, or128, shr7, List.length_map, List.length_append]) | (with_reducible apply And.intro; focus (first | omega | (simp only [Fact, Bool.not_eq_true', Bool.not_eq_false', decide_eq_true_eq, decide_eq_false_iff_not] at *; omega)); (try simp (disch := omega) only [*, ↓Ed, Eu, ↓reduceIte, reduceCtorEq, Nat.reduceAdd, Nat.reduceEqDiff, Nat.reduceLT, Nat.reduceLeDiff, Int.reduceToNat, Int.reduceEq, Int.reduceLT, Int.reduceLE, w64, or128, shr7, List.length_map, List.length_append])) | ((first | refine gW_sp ?_ | refine condW_sp ?_ | refine pickW_sp ?_); (try refine Sp_n ?_); (first | refine Sp_t (by assumption) ?_ | refine Sp_f (by assumption) ?_ | refine Sp_split (fun h => ?_) (fun h => ?_)) <;> (first | have h' := Fact_lt h | have h' := Fact_nlt h | have h' := Fact_le h | have h' := Fact_nle h | skip) <;> (first | (exfalso; omega) | simp (disch := omega) only [*, ↓Ed, Eu, ↓reduceIte, reduceCtorEq, Nat.reduceAdd, Nat.reduceEqDiff, Nat.reduceLT, Nat.reduceLeDiff, Int.reduceToNat, Int.reduceEq, Int.reduceLT, Int.reduceLE, w64, or128, shr7, List.length_map, List.length_append])) | (show (_ : Nat) ≤ _; omega))
    · rw [el_hi, ← List.map_append]
      rw [put7_hi (by omega), List.append_cons] at h1
      refine Round_lit (out ++ [UInt8.ofNat (u % 128 + 128)], u / 128) ⟨Le_lit (by simp [LeL, lk]), ⟨h1, ?_⟩, by simp only; omega⟩
      rw [← h1] at h8
      simp only [List.length_append] at h8 ⊢
      omega
    · rw [put7_lo (by omega)] at h1
      rw [el_lo u (by omega), ← List.map_append, h1, BytesW_map]
      simp only [↓Ed, Eu, ↓reduceIte, reduceCtorEq, Nat.reduceAdd, Nat.reduceEqDiff, Nat.reduceLT, Nat.reduceLeDiff, Int.reduceToNat, Int.reduceEq, Int.reduceLT, Int.reduceLE, w64, or128, shr7, List.length_map, List.length_append]
  · have hv := of_decide_eq_false h
    simp only [pn, if_neg hv]
theorem p_Next (s : List UInt8) (at' : Int) (hs : s.length ≤ 4611686018427387904) :
    CP Try.prog 41 [.str s, .int .i64 at'] (.tup [.int .i64 (nx s at').1, .int .i64 (nx s at').2.1, .int .i64 (nx s at').2.2]) := by
  refine ok_leb_Next _ _ (by simp) ?_
  simp only [c_leb_Next, ↓Ed, Eu, ↓reduceIte, reduceCtorEq, Nat.reduceAdd, Nat.reduceEqDiff, Nat.reduceLT, Nat.reduceLeDiff, Int.reduceToNat, Int.reduceEq, Int.reduceLT, Int.reduceLE, w64, or128, shr7, List.length_map, List.length_append]
  repeat' (first | (refine NewB_intro0 (fun b => ?_); simp only [↓Ed, Eu, ↓reduceIte, reduceCtorEq, Nat.reduceAdd, Nat.reduceEqDiff, Nat.reduceLT, Nat.reduceLeDiff, Int.reduceToNat, Int.reduceEq, Int.reduceLT, Int.reduceLE, w64, or128, shr7, List.length_map, List.length_append]) | (refine NewB_intro (fun b hb => ?_); simp only [ln_cons2, ln_nil, and_true] at hb; simp (disch := omega) only [*, ↓Ed, Eu, ↓reduceIte, reduceCtorEq, Nat.reduceAdd, Nat.reduceEqDiff, Nat.reduceLT, Nat.reduceLeDiff, Int.reduceToNat, Int.reduceEq, Int.reduceLT, Int.reduceLE, w64, or128, shr7, List.length_map, List.length_append]) | (with_reducible apply And.intro; focus (first | omega | (simp only [Fact, Bool.not_eq_true', Bool.not_eq_false', decide_eq_true_eq, decide_eq_false_iff_not] at *; omega)); (try simp (disch := omega) only [*, ↓Ed, Eu, ↓reduceIte, reduceCtorEq, Nat.reduceAdd, Nat.reduceEqDiff, Nat.reduceLT, Nat.reduceLeDiff, Int.reduceToNat, Int.reduceEq, Int.reduceLT, Int.reduceLE, w64, or128, shr7, List.length_map, List.length_append])) | ((first | refine gW_sp ?_ | refine condW_sp ?_ | refine pickW_sp ?_); (try refine Sp_n ?_); (first | refine Sp_t (by assumption) ?_ | refine Sp_f (by assumption) ?_ | refine Sp_split (fun h => ?_) (fun h => ?_)) <;> (first | have h' := Fact_lt h | have h' := Fact_nlt h | have h' := Fact_le h | have h' := Fact_nle h | skip) <;> (first | (exfalso; omega) | simp (disch := omega) only [*, ↓Ed, Eu, ↓reduceIte, reduceCtorEq, Nat.reduceAdd, Nat.reduceEqDiff, Nat.reduceLT, Nat.reduceLeDiff, Int.reduceToNat, Int.reduceEq, Int.reduceLT, Int.reduceLE, w64, or128, shr7, List.length_map, List.length_append])) | (show (_ : Nat) ≤ _; omega))
  · simp [nx_out (show ¬ (0 ≤ at' ∧ at' ≤ s.length) by omega)]
  · simp [nx_out (show ¬ (0 ≤ at' ∧ at' ≤ s.length) by omega)]
  obtain ⟨i, rfl⟩ : ∃ i : Nat, at' = i := ⟨at'.toNat, by omega⟩
  have hi : i ≤ s.length := by omega
  rw [nx_in hi]
  refine wpx_loop (fun x : Nat × Nat => ⟨lk [(0, .str s), (1, .int .i64 i), (7, .int .u64 (x.1 : Int)), (18, .int .i64 x.2)], lk []⟩)
    (fun x => x.2 ≤ 8 ∧ x.1 < 128 ^ x.2 ∧ Fact (get7 8 (s.drop i) true = comb x.1 x.2 (get7 (8 - x.2) (s.drop (i + x.2)) (decide (x.2 = 0))))) (fun x => 8 - x.2) (0, 0)
    ⟨by omega, by simp, (comb_zero _ (get7_err _ _ _)).symm⟩ (Le_lit (by simp [LeL, lk, IntKind.wrap_u64])) ?_
  rintro ⟨u, k⟩ ⟨h1, h2, h3⟩
  simp only at h1 h2 h3
  simp only [↓Ed, Eu, ↓reduceIte, reduceCtorEq, Nat.reduceAdd, Nat.reduceEqDiff, Nat.reduceLT, Nat.reduceLeDiff, Int.reduceToNat, Int.reduceEq, Int.reduceLT, Int.reduceLE, w64, or128, shr7, List.length_map, List.length_append]
  repeat' (first | (refine NewB_intro0 (fun b => ?_); simp only [↓Ed, Eu, ↓reduceIte, reduceCtorEq, Nat.reduceAdd, Nat.reduceEqDiff, Nat.reduceLT, Nat.reduceLeDiff, Int.reduceToNat, Int.reduceEq, Int.reduceLT, Int.reduceLE, w64, or128, shr7, List.length_map, List.length_append]) | (refine NewB_intro (fun b hb => ?_); simp only [ln_cons2, ln_nil, and_true] at hb; simp (disch := omega) only [*, ↓Ed, Eu, ↓reduceIte, reduceCtorEq, Nat.reduceAdd, Nat.reduceEqDiff, Nat.reduceLT, Nat.reduceLeDiff, Int.reduceToNat, Int.reduceEq, Int.reduceLT, Int.reduceLE, w64, or128, shr7, List.length_map, List.length_append]) | (with_reducible apply And.intro; focus (first | omega | (simp only [Fact, Bool.not_eq_true', Bool.not_eq_false', decide_eq_true_eq, decide_eq_false_iff_not] at *; omega)); (try simp (disch := omega) only [*, ↓Ed, Eu, ↓reduceIte, reduceCtorEq, Nat.reduceAdd, Nat.reduceEqDiff, Nat.reduceLT, Nat.reduceLeDiff, Int.reduceToNat, Int.reduceEq, Int.reduceLT, Int.reduceLE, w64, or128, shr7, List.length_map, List.length_append])) | ((first | refine gW_sp ?_ | refine condW_sp ?_ | refine pickW_sp ?_); (try refine Sp_n ?_); (first | refine Sp_t (by assumption) ?_ | refine Sp_f (by assumption) ?_ | refine Sp_split (fun h => ?_) (fun h => ?_)) <;> (first | have h' := Fact_lt h | have h' := Fact_nlt h | have h' := Fact_le h | have h' := Fact_nle h | skip) <;> (first | (exfalso; omega) | simp (disch := omega) only [*, ↓Ed, Eu, ↓reduceIte, reduceCtorEq, Nat.reduceAdd, Nat.reduceEqDiff, Nat.reduceLT, Nat.reduceLeDiff, Int.reduceToNat, Int.reduceEq, Int.reduceLT, Int.reduceLE, w64, or128, shr7, List.length_map, List.length_append])) | (show (_ : Nat) ≤ _; omega))
  · rw [(inv7 (by omega) h3).1 (by omega)]; simp [fin7]
  · rw [tn2] at h'
    have hc := (s.getD (i + k) 0).toNat_lt
    refine Round_lit (u + (s.getD (i + k) 0).toNat % 128 * 128 ^ k, k + 1) ⟨Le_lit ?_, ⟨by simp only; omega, ?_, (inv7 (by omega) h3).2.1 (by omega) (by omega)⟩, by simp only; omega⟩
    · simp only [LeL, lk_cons, tn2, shor u k _ h2 (by omega)]
      simp
    · simp only [Nat.pow_succ]
      have : (s.getD (i + k) 0).toNat % 128 * 128 ^ k ≤ 127 * 128 ^ k := Nat.mul_le_mul_right _ (by omega)
      omega
  · simp only [Fact, Bool.not_eq_true', Bool.not_eq_false', decide_eq_true_eq, decide_eq_false_iff_not, tn2] at *
    rw [(inv7 (by omega) h3).2.2.1 (by omega) (by omega) (by omega)]; simp [fin7]
  case' refine_2.refine_2.refine_2 =>
    rw [h3, show 8 - k = 0 by omega]; simp [comb, get7, fin7]
  all_goals
    rw [shor u k _ h2 (by omega)]
    simp only [Fact, Bool.not_eq_true', Bool.not_eq_false', decide_eq_true_eq, decide_eq_false_iff_not, tn2] at *
    rw [(inv7 (by omega) h3).2.2.2 (by omega) (by omega) (by omega)]
    have hp : 128 ^ k ≤ 128 ^ 7 := Nat.pow_le_pow_right (by omega) (by omega)
    have hq : (s.getD (i + k) 0).toNat % 128 * 128 ^ k ≤ 127 * 128 ^ k := Nat.mul_le_mul_right _ (by omega)
    generalize (s.getD (i + k) 0).toNat % 128 * 128 ^ k = z at *
    rw [w64 (by omega)]
    simp [fin7]
    try omega
end Go.Proofs.Ytedcagoilpaafaa
