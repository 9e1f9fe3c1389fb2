import Derived.Test.YtfkkjhnbbimcaaaDoorK12
/- chapter 32: the document's digits to sixteen, lines, words -/
namespace Go.Proofs.YtfkkjhnbbimcaaaDoor
set_option linter.all false
open Go.RowKit
set_option maxRecDepth 100000
theorem td16 (u : Nat) : (u : Int).tdiv 16 = ((u / 16 : Nat) : Int) := rfl
theorem tm16 (u : Nat) : (u : Int).tmod 16 = ((u % 16 : Nat) : Int) := rfl
theorem u8e (a b : UInt8) : ((a.toNat : Int) = (b.toNat : Int)) = (a = b) := propext ⟨fun h => UInt8.toNat_inj.1 (by omega), fun h => by rw [h]⟩
theorem hexd_lo {n : Nat} (h : n < 10) : (hexd n).toNat = 48 + n := by unfold hexd; rw [if_pos h, u8n (by omega)]
theorem hexd_hi {n : Nat} (h : ¬ n < 10) (h2 : n < 16) : (hexd n).toNat = 87 + n := by unfold hexd; rw [if_neg h, u8n (by omega)]
theorem p_digit (n : Nat) (h : n < 16) : CP Tryd.prog 89 [.int .i64 (n : Int)] (.int .u8 ((hexd n).toNat : Int)) := by
  refine ok_ligref1_digit _ _ (by simp) ?_
  simp only [c_ligref1_digit, ↓Ed, Eu, ↓reduceIte, reduceCtorEq, Nat.reduceAdd, Nat.reduceEqDiff, Nat.reduceLT, Nat.reduceLeDiff, Int.reduceToNat, Int.reduceEq, Int.reduceLT, Int.reduceLE, w64, List.length_append, List.length_map, Nat.mul_one, List.map_append, td16, tm16, w64b, u8e, tk1, hexL_len, List.length_take]
  repeat' ((first | refine NewB_intro0 (fun b => ?_) | (refine NewB_intro (fun b hb => ?_); simp only [ln_cons2, ln_nil, and_true] at hb) | (with_reducible apply And.intro; (focus (first | omega | (simp only [Fact, Bool.not_eq_true', Bool.not_eq_false', decide_eq_true_eq, decide_eq_false_iff_not] at *; omega)))) | ((first | refine gW_sp ?_ | refine condW_sp ?_ | refine pickW_sp ?_); (try refine Sp_n ?_); (first | refine Sp_t (by assumption) ?_ | refine Sp_f (by assumption) ?_ | refine Sp_split (fun h => ?_) (fun h => ?_)) <;> (first | have h' := Fact_lt h | have h' := Fact_nlt h | have h' := Fact_le h | have h' := Fact_nle h | skip) <;> (try (exfalso; omega))) | refine TreeW_intro (by rfl) ?_ | refine Two_intro ?_ ?_ | exact leK_lit (by simp [LeL, lk, *]) | (show (_ : Nat) ≤ _; omega)) <;> (try simp (disch := omega) only [*, ↓Ed, Eu, ↓reduceIte, reduceCtorEq, Nat.reduceAdd, Nat.reduceEqDiff, Nat.reduceLT, Nat.reduceLeDiff, Int.reduceToNat, Int.reduceEq, Int.reduceLT, Int.reduceLE, w64, List.length_append, List.length_map, Nat.mul_one, List.map_append, td16, tm16, w64b, u8e, tk1, hexL_len, List.length_take]))
  all_goals (simp only [Fact, Bool.not_eq_true', Bool.not_eq_false', decide_eq_true_eq, decide_eq_false_iff_not] at *)
  · rw [hexd_lo (by omega), IntKind.wrap_u8]; omega
  · rw [hexd_hi (by omega) (by assumption), IntKind.wrap_u8]; omega
theorem p_Hex (d : List UInt8) (hd : d.length ≤ 8000000) : CP Tryd.prog 86 [.str d] (.str (hexL d)) := by
  have hm : maxLen = 9223372036854775807 := rfl
  refine ok_ligref1_Hex _ _ (by simp) ?_
  simp only [c_ligref1_Hex, ↓Ed, Eu, ↓reduceIte, reduceCtorEq, Nat.reduceAdd, Nat.reduceEqDiff, Nat.reduceLT, Nat.reduceLeDiff, Int.reduceToNat, Int.reduceEq, Int.reduceLT, Int.reduceLE, w64, List.length_append, List.length_map, Nat.mul_one, List.map_append, td16, tm16, w64b, u8e, tk1, hexL_len, List.length_take]
  repeat' ((first | refine NewB_intro0 (fun b => ?_) | (refine NewB_intro (fun b hb => ?_); simp only [ln_cons2, ln_nil, and_true] at hb) | (with_reducible apply And.intro; (focus (first | omega | (simp only [Fact, Bool.not_eq_true', Bool.not_eq_false', decide_eq_true_eq, decide_eq_false_iff_not] at *; omega)))) | ((first | refine gW_sp ?_ | refine condW_sp ?_ | refine pickW_sp ?_); (try refine Sp_n ?_); (first | refine Sp_t (by assumption) ?_ | refine Sp_f (by assumption) ?_ | refine Sp_split (fun h => ?_) (fun h => ?_)) <;> (first | have h' := Fact_lt h | have h' := Fact_nlt h | have h' := Fact_le h | have h' := Fact_nle h | skip) <;> (try (exfalso; omega))) | refine TreeW_intro (by rfl) ?_ | refine Two_intro ?_ ?_ | exact leK_lit (by simp [LeL, lk, *]) | (show (_ : Nat) ≤ _; omega)) <;> (try simp (disch := omega) only [*, ↓Ed, Eu, ↓reduceIte, reduceCtorEq, Nat.reduceAdd, Nat.reduceEqDiff, Nat.reduceLT, Nat.reduceLeDiff, Int.reduceToNat, Int.reduceEq, Int.reduceLT, Int.reduceLE, w64, List.length_append, List.length_map, Nat.mul_one, List.map_append, td16, tm16, w64b, u8e, tk1, hexL_len, List.length_take]))
  refine wpx_loop (fun k : Nat => ⟨lk [(0, .str d), (3, .sl (some 5) 1 (bts (hexL (d.take k)))), (4, .int .i64 (k : Int))], lk []⟩) (fun k => k ≤ d.length) (fun k => d.length - k) 0 (by omega) (Le_lit (by simp [LeL, lk, hexL])) ?_
  intro k h1
  have hc := (d.getD k 0).toNat_lt
  simp (disch := omega) only [↓Ed, Eu, ↓reduceIte, reduceCtorEq, Nat.reduceAdd, Nat.reduceEqDiff, Nat.reduceLT, Nat.reduceLeDiff, Int.reduceToNat, Int.reduceEq, Int.reduceLT, Int.reduceLE, w64, List.length_append, List.length_map, Nat.mul_one, List.map_append, td16, tm16, w64b, u8e, tk1, hexL_len, List.length_take]
  repeat' ((first | refine CallW_intro (p_digit ((d.getD k 0).toNat / 16) (by omega)) ?_ | refine CallW_intro (p_digit ((d.getD k 0).toNat % 16) (by omega)) ?_ | refine BytesW_intro (hexL d) (by simp [byteEl]) ?_ | refine NewB_intro0 (fun b => ?_) | (refine NewB_intro (fun b hb => ?_); simp only [ln_cons2, ln_nil, and_true] at hb) | (with_reducible apply And.intro; (focus (first | omega | (simp only [Fact, Bool.not_eq_true', Bool.not_eq_false', decide_eq_true_eq, decide_eq_false_iff_not] at *; omega)))) | ((first | refine gW_sp ?_ | refine condW_sp ?_ | refine pickW_sp ?_); (try refine Sp_n ?_); (first | refine Sp_t (by assumption) ?_ | refine Sp_f (by assumption) ?_ | refine Sp_split (fun h => ?_) (fun h => ?_)) <;> (first | have h' := Fact_lt h | have h' := Fact_nlt h | have h' := Fact_le h | have h' := Fact_nle h | skip) <;> (try (exfalso; omega))) | refine TreeW_intro (by rfl) ?_ | refine Two_intro ?_ ?_ | exact leK_lit (by simp [LeL, lk, *]) | (show (_ : Nat) ≤ _; omega)) <;> (try simp (disch := omega) only [*, ↓Ed, Eu, ↓reduceIte, reduceCtorEq, Nat.reduceAdd, Nat.reduceEqDiff, Nat.reduceLT, Nat.reduceLeDiff, Int.reduceToNat, Int.reduceEq, Int.reduceLT, Int.reduceLE, w64, List.length_append, List.length_map, Nat.mul_one, List.map_append, td16, tm16, w64b, u8e, tk1, hexL_len, List.length_take]))
  · refine Round_lit (k + 1) ⟨Le_lit ?_, by omega, by omega⟩
    rw [hex_step (by omega)]
    simp [LeL, lk, byteEl]
  · simp only [Fact, Bool.not_eq_true', Bool.not_eq_false', decide_eq_true_eq, decide_eq_false_iff_not] at *
    rw [List.take_of_length_le (by omega)]
theorem p_data (d : List UInt8) (hd : d.length ≤ 8000000) : CP Tryd.prog 65 [.str d] (.str (hexA d)) := by
  refine ok_ligref30_data _ _ (by simp) ?_
  simp only [c_ligref30_data, ↓Ed, Eu, ↓reduceIte, reduceCtorEq, Nat.reduceAdd, Nat.reduceEqDiff, Nat.reduceLT, Nat.reduceLeDiff, Int.reduceToNat, Int.reduceEq, Int.reduceLT, Int.reduceLE, w64, List.length_append, List.length_map, Nat.mul_one, List.map_append, td16, tm16, w64b, u8e, tk1, hexL_len, List.length_take]
  repeat' ((first | refine CallO_pure (p_Hex d hd) ?_ | refine NewB_intro0 (fun b => ?_) | (refine NewB_intro (fun b hb => ?_); simp only [ln_cons2, ln_nil, and_true] at hb) | (with_reducible apply And.intro; (focus (first | omega | (simp only [Fact, Bool.not_eq_true', Bool.not_eq_false', decide_eq_true_eq, decide_eq_false_iff_not] at *; omega)))) | ((first | refine gW_sp ?_ | refine condW_sp ?_ | refine pickW_sp ?_); (try refine Sp_n ?_); (first | refine Sp_t (by assumption) ?_ | refine Sp_f (by assumption) ?_ | refine Sp_split (fun h => ?_) (fun h => ?_)) <;> (first | have h' := Fact_lt h | have h' := Fact_nlt h | have h' := Fact_le h | have h' := Fact_nle h | skip) <;> (try (exfalso; omega))) | refine TreeW_intro (by rfl) ?_ | refine Two_intro ?_ ?_ | exact leK_lit (by simp [LeL, lk, *]) | (show (_ : Nat) ≤ _; omega)) <;> (try simp (disch := omega) only [*, ↓Ed, Eu, ↓reduceIte, reduceCtorEq, Nat.reduceAdd, Nat.reduceEqDiff, Nat.reduceLT, Nat.reduceLeDiff, Int.reduceToNat, Int.reduceEq, Int.reduceLT, Int.reduceLE, w64, List.length_append, List.length_map, Nat.mul_one, List.map_append, td16, tm16, w64b, u8e, tk1, hexL_len, List.length_take]))
  all_goals (simp only [Fact, Bool.not_eq_true', Bool.not_eq_false', decide_eq_true_eq, decide_eq_false_iff_not] at *)
  all_goals simp [hexA, *]
/-- the last of the first bytes that two digits tell -/
def fh (a b : UInt8) : Nat → Int
  | 0 => -1
  | v + 1 => if hexd (v / 16) = a ∧ hexd (v % 16) = b then v else fh a b v
theorem hv_iff {n : Nat} (h : n < 16) (a : UInt8) : hexd n = a ↔ hv a = n := by
  constructor
  · rintro rfl; exact hv_hexd ⟨n, h⟩
  · intro e
    have := (hexd_hv' (c := a) (by omega)).1
    rw [e] at this; simpa using this
theorem fh_eq (a b : UInt8) : ∀ v, v ≤ 256 → fh a b v = if 0 ≤ hv a ∧ 0 ≤ hv b ∧ 16 * hv a + hv b < v then 16 * hv a + hv b else -1
  | 0, _ => by rw [fh, if_neg (by omega)]
  | v + 1, h => by
    have e : (hexd (v / 16) = a ∧ hexd (v % 16) = b) ↔ (hv a = (v / 16 : Nat) ∧ hv b = (v % 16 : Nat)) := by rw [hv_iff (by omega), hv_iff (by omega)]
    rw [fh, fh_eq a b v (by omega)]
    by_cases h1 : hv a = (v / 16 : Nat) ∧ hv b = (v % 16 : Nat)
    · rw [if_pos (e.2 h1), if_pos (by omega)]; omega
    · rw [if_neg (fun g => h1 (e.1 g))]
      by_cases h2 : 0 ≤ hv a ∧ 0 ≤ hv b ∧ 16 * hv a + hv b < v
      · rw [if_pos h2, if_pos (by omega)]
      · rw [if_neg h2, if_neg]
        rintro ⟨g1, g2, g3⟩
        have e1 := (hexd_hv' g1).2
        have e2 := (hexd_hv' g2).2
        exact h1 (by omega)
theorem fh256 (a b : UInt8) : fh a b 256 = if 0 ≤ hv a ∧ 0 ≤ hv b then 16 * hv a + hv b else -1 := by
  rw [fh_eq a b 256 (Nat.le_refl _)]
  by_cases h : 0 ≤ hv a ∧ 0 ≤ hv b
  · have e1 := (hexd_hv' h.1).2
    have e2 := (hexd_hv' h.2).2
    rw [if_pos h, if_pos (by omega)]
  · rw [if_neg h, if_neg (fun g => h ⟨g.1, g.2.1⟩)]
def frB (s : List UInt8) : Bool := match unh s with
  | none => false
  | some _ => decide (s.length % 2 = 0)
set_option maxHeartbeats 4000000 in
theorem p_FromHex (s : List UInt8) (hs : s.length ≤ 8000000) : CP Tryd.prog 72 [.str s] (.tup [.str ((unh s).getD []), .bool (frB s)]) := by
  have hm : maxLen = 9223372036854775807 := rfl
  refine ok_ligref1_FromHex _ _ (by simp) ?_
  simp only [c_ligref1_FromHex, ↓Ed, Eu, ↓reduceIte, reduceCtorEq, Nat.reduceAdd, Nat.reduceEqDiff, Nat.reduceLT, Nat.reduceLeDiff, Int.reduceToNat, Int.reduceEq, Int.reduceLT, Int.reduceLE, w64, List.length_append, List.length_map, Nat.mul_one, List.map_append, td16, tm16, w64b, u8e, tk1, hexL_len, List.length_take]
  repeat' ((first | refine NewB_intro0 (fun b => ?_) | (refine NewB_intro (fun b hb => ?_); simp only [ln_cons2, ln_nil, and_true] at hb) | (with_reducible apply And.intro; (focus (first | omega | (simp only [Fact, Bool.not_eq_true', Bool.not_eq_false', decide_eq_true_eq, decide_eq_false_iff_not] at *; omega)))) | ((first | refine gW_sp ?_ | refine condW_sp ?_ | refine pickW_sp ?_); (try refine Sp_n ?_); (first | refine Sp_t (by assumption) ?_ | refine Sp_f (by assumption) ?_ | refine Sp_split (fun h => ?_) (fun h => ?_)) <;> (first | have h' := Fact_lt h | have h' := Fact_nlt h | have h' := Fact_le h | have h' := Fact_nle h | skip) <;> (try (exfalso; omega))) | refine TreeW_intro (by rfl) ?_ | refine Two_intro ?_ ?_ | exact leK_lit (by simp [LeL, lk, *]) | (show (_ : Nat) ≤ _; omega)) <;> (try simp (disch := omega) only [*, ↓Ed, Eu, ↓reduceIte, reduceCtorEq, Nat.reduceAdd, Nat.reduceEqDiff, Nat.reduceLT, Nat.reduceLeDiff, Int.reduceToNat, Int.reduceEq, Int.reduceLT, Int.reduceLE, w64, List.length_append, List.length_map, Nat.mul_one, List.map_append, td16, tm16, w64b, u8e, tk1, hexL_len, List.length_take]))
  refine wpx_loop (fun x : List UInt8 × Nat => ⟨lk [(0, .str s), (4, .sl (some 5) 1 (bts x.1)), (5, .int .i64 (x.2 : Int))], lk []⟩) (fun x => x.2 ≤ s.length + 1 ∧ 2 * x.1.length = x.2 ∧ Fact (UnI s x.1 x.2)) (fun x => s.length + 2 - x.2) ([], 0) ⟨by simp, by simp, by simp [Fact, UnI]⟩ (Le_lit (by simp [LeL, lk])) ?_
  rintro ⟨out, i⟩ ⟨h1, h2, h3⟩
  simp only at h1 h2 h3
  simp (disch := omega) only [↓Ed, Eu, ↓reduceIte, reduceCtorEq, Nat.reduceAdd, Nat.reduceEqDiff, Nat.reduceLT, Nat.reduceLeDiff, Int.reduceToNat, Int.reduceEq, Int.reduceLT, Int.reduceLE, w64, List.length_append, List.length_map, Nat.mul_one, List.map_append, td16, tm16, w64b, u8e, tk1, hexL_len, List.length_take]
  repeat' ((first | refine BytesW_intro (out) (by simp [byteEl]) ?_ | refine NewB_intro0 (fun b => ?_) | (refine NewB_intro (fun b hb => ?_); simp only [ln_cons2, ln_nil, and_true] at hb) | (with_reducible apply And.intro; (focus (first | omega | (simp only [Fact, Bool.not_eq_true', Bool.not_eq_false', decide_eq_true_eq, decide_eq_false_iff_not] at *; omega)))) | ((first | refine gW_sp ?_ | refine condW_sp ?_ | refine pickW_sp ?_); (try refine Sp_n ?_); (first | refine Sp_t (by assumption) ?_ | refine Sp_f (by assumption) ?_ | refine Sp_split (fun h => ?_) (fun h => ?_)) <;> (first | have h' := Fact_lt h | have h' := Fact_nlt h | have h' := Fact_le h | have h' := Fact_nle h | skip) <;> (try (exfalso; omega))) | refine TreeW_intro (by rfl) ?_ | refine Two_intro ?_ ?_ | exact leK_lit (by simp [LeL, lk, *]) | (show (_ : Nat) ≤ _; omega)) <;> (try simp (disch := omega) only [*, ↓Ed, Eu, ↓reduceIte, reduceCtorEq, Nat.reduceAdd, Nat.reduceEqDiff, Nat.reduceLT, Nat.reduceLeDiff, Int.reduceToNat, Int.reduceEq, Int.reduceLT, Int.reduceLE, w64, List.length_append, List.length_map, Nat.mul_one, List.map_append, td16, tm16, w64b, u8e, tk1, hexL_len, List.length_take]))
  · refine wpx_loop (fun v : Nat => ⟨lk [(0, .str s), (4, .sl (some 5) 1 (bts out)), (5, .int .i64 (i : Int)), (6, .int .i64 (fh (s.getD i 0) (s.getD (i + 1) 0) v)), (7, .int .i64 (v : Int))], lk []⟩) (fun v => v ≤ 256) (fun v => 256 - v) 0 (by omega) (Le_lit (by simp [LeL, lk, fh])) ?_
    intro v hv'
    simp (disch := omega) only [↓Ed, Eu, ↓reduceIte, reduceCtorEq, Nat.reduceAdd, Nat.reduceEqDiff, Nat.reduceLT, Nat.reduceLeDiff, Int.reduceToNat, Int.reduceEq, Int.reduceLT, Int.reduceLE, w64, List.length_append, List.length_map, Nat.mul_one, List.map_append, td16, tm16, w64b, u8e, tk1, hexL_len, List.length_take]
    repeat' ((first | refine CallW_intro (p_digit (v / 16) (by omega)) ?_ | refine CallW_intro (p_digit (v % 16) (by omega)) ?_ | refine NewB_intro0 (fun b => ?_) | (refine NewB_intro (fun b hb => ?_); simp only [ln_cons2, ln_nil, and_true] at hb) | (with_reducible apply And.intro; (focus (first | omega | (simp only [Fact, Bool.not_eq_true', Bool.not_eq_false', decide_eq_true_eq, decide_eq_false_iff_not] at *; omega)))) | ((first | refine gW_sp ?_ | refine condW_sp ?_ | refine pickW_sp ?_); (try refine Sp_n ?_); (first | refine Sp_t (by assumption) ?_ | refine Sp_f (by assumption) ?_ | refine Sp_split (fun h => ?_) (fun h => ?_)) <;> (first | have h' := Fact_lt h | have h' := Fact_nlt h | have h' := Fact_le h | have h' := Fact_nle h | skip) <;> (try (exfalso; omega))) | refine TreeW_intro (by rfl) ?_ | refine Two_intro ?_ ?_ | exact leK_lit (by simp [LeL, lk, *]) | (show (_ : Nat) ≤ _; omega)) <;> (try simp (disch := omega) only [*, ↓Ed, Eu, ↓reduceIte, reduceCtorEq, Nat.reduceAdd, Nat.reduceEqDiff, Nat.reduceLT, Nat.reduceLeDiff, Int.reduceToNat, Int.reduceEq, Int.reduceLT, Int.reduceLE, w64, List.length_append, List.length_map, Nat.mul_one, List.map_append, td16, tm16, w64b, u8e, tk1, hexL_len, List.length_take]))
    all_goals first
      | exact Round_lit (v + 1) ⟨Le_lit (by generalize s.getD i 0 = a at *; generalize s.getD (i + 1) 0 = b at *; simp only [Fact, Bool.not_eq_true', Bool.not_eq_false', decide_eq_true_eq, decide_eq_false_iff_not] at *; simp [LeL, lk, fh, *]), by omega, by omega⟩
      | skip
    all_goals (have hv256 : v = 256 := by omega)
    all_goals subst hv256
    all_goals rw [fh256] at *
    all_goals generalize ha : s.getD i 0 = a at *
    all_goals generalize hb : s.getD (i + 1) 0 = b at *
    · simp only [Fact, Bool.not_eq_true', Bool.not_eq_false', decide_eq_true_eq, decide_eq_false_iff_not] at *
      have hn := unI_bad (by omega) h3 (fun g => by rw [ha, hb] at g; have e1 := (hexd_hv' g.1).2; have e2 := (hexd_hv' g.2).2; rw [if_pos (by omega)] at h'; omega)
      simp [frB, hn]
    · have g : 0 ≤ hv a ∧ 0 ≤ hv b := by
        by_cases g : 0 ≤ hv a ∧ 0 ≤ hv b
        · exact g
        · rw [if_neg g] at h'; omega
      have e1 := (hexd_hv' g.1).2
      have e2 := (hexd_hv' g.2).2
      have hi := unI_step (by omega) h3 (by rw [ha]; exact g.1) (by rw [hb]; exact g.2)
      rw [ha, hb] at hi
      rw [if_pos g]
      refine Round_lit (out ++ [UInt8.ofNat (16 * (hv a).toNat + (hv b).toNat)], i + 2) ⟨Le_lit ?_, ⟨by simp only; omega, by simp; omega, hi⟩, by simp only; omega⟩
      have e3 : (UInt8.ofNat (16 * (hv a).toNat + (hv b).toNat)).toNat = 16 * (hv a).toNat + (hv b).toNat := by rw [UInt8.toNat_ofNat']; omega
      have e4 : IntKind.u8.wrap (16 * hv a + hv b) = ((16 * (hv a).toNat + (hv b).toNat : Nat) : Int) := by rw [IntKind.wrap_u8]; omega
      simp only [LeL, lk, byteEl, e3, e4, List.map_append, List.map_cons, List.map_nil, bts]
      simp
  all_goals simp only [Fact, Bool.not_eq_true', Bool.not_eq_false', decide_eq_true_eq, decide_eq_false_iff_not] at *
  all_goals (have hn := unI_end (by omega) h3)
  all_goals simp only [frB, hn]
  all_goals simp
  all_goals (try rw [tm2])
  all_goals (try omega)
end Go.Proofs.YtfkkjhnbbimcaaaDoor

/- chapter 32: the document's lines, words, what may be told -/
namespace Go.Proofs.YtfkkjhnbbimcaaaDoor
set_option linter.all false
open Go.RowKit
set_option maxRecDepth 100000
set_option maxHeartbeats 8000000 in
theorem p_Line (x : Act) (h : mayQ x) (hd : x.d.length ≤ 8000000) : CP Tryd.prog 39 [.agg x.cs] (.str (lineA x)) := by
  have hm : maxLen = 9223372036854775807 := rfl
  obtain ⟨h1, h2, h3, h4, h5, hc, hn, hmm⟩ := h
  have e1 := itoa_len17 hc
  have e2 := itoa_len17 hn
  have e3 := itoa_len17 hmm
  have e4 := hexA_len x.d
  obtain ⟨k, s, c, n, m, d⟩ := x
  simp only [rngN] at h1 h2 h3 h4 h5 hc hn hmm hd e1 e2 e3 e4
  have hs : s = 0 ∨ s = 1 := by omega
  have hk : k = 1 ∨ k = 2 ∨ k = 3 ∨ k = 4 ∨ k = 5 ∨ k = 6 := by omega
  clear h3
  refine ok_ligref30_Line _ _ (by simp) ?_
  rcases hk with rfl | rfl | rfl | rfl | rfl | rfl <;> rcases hs with rfl | rfl
  all_goals simp (disch := omega) only [c_ligref30_Line, ↓Ed, Eu, ↓reduceIte, reduceCtorEq, Nat.reduceAdd, Nat.reduceEqDiff, Nat.reduceLT, Nat.reduceLeDiff, Int.reduceToNat, Int.reduceEq, Int.reduceLT, Int.reduceLE, w64, List.length_append, List.length_map, Nat.mul_one, List.append_assoc, Act.cs, or_self, eqA, List.take_length, List.getD_cons_zero, List.getD_cons_succ]
  all_goals repeat' ((first | refine CallW_intro (p_DigI _ (by omega)) ?_ | refine CallO_pure (p_DigI _ (by omega)) ?_ | refine CallW_intro (p_data _ (by omega)) ?_ | refine CallO_pure (p_data _ (by omega)) ?_ | refine NewB_intro0 (fun b => ?_) | (refine NewB_intro (fun b hb => ?_); simp only [ln_cons2, ln_nil, and_true] at hb) | (with_reducible apply And.intro; (focus (first | omega | (simp only [Fact, Bool.not_eq_true', Bool.not_eq_false', decide_eq_true_eq, decide_eq_false_iff_not] at *; omega)))) | ((first | refine gW_sp ?_ | refine condW_sp ?_ | refine pickW_sp ?_); (try refine Sp_n ?_); (first | refine Sp_t (by assumption) ?_ | refine Sp_f (by assumption) ?_ | refine Sp_split (fun h => ?_) (fun h => ?_)) <;> (first | have h' := Fact_lt h | have h' := Fact_nlt h | have h' := Fact_le h | have h' := Fact_nle h | skip) <;> (try (exfalso; omega))) | refine TreeW_intro (by rfl) ?_ | refine Two_intro ?_ ?_ | exact leK_lit (by simp [LeL, lk, *]) | (show (_ : Nat) ≤ _; omega)) <;> (try simp (disch := omega) only [*, ↓Ed, Eu, ↓reduceIte, reduceCtorEq, Nat.reduceAdd, Nat.reduceEqDiff, Nat.reduceLT, Nat.reduceLeDiff, Int.reduceToNat, Int.reduceEq, Int.reduceLT, Int.reduceLE, w64, List.length_append, List.length_map, Nat.mul_one, List.append_assoc, Act.cs, or_self, eqA, List.take_length, List.getD_cons_zero, List.getD_cons_succ]))
  all_goals (try simp [lineA, bodyA, wordsA, Lib.join_cons, Lib.joinTail, wd, sideW])
theorem spx_last {s : List UInt8} {f : Nat} {z : UInt8} (hn : ∀ j, f ≤ j → j < s.length → ¬ s.getD j 0 = z) : spx z (s.drop f) = [s.drop f] := by
  refine spx_none fun hm => ?_
  obtain ⟨j, hj, e⟩ := List.getElem_of_mem hm
  rw [List.length_drop] at hj
  refine hn (f + j) (by omega) (by omega) ?_
  rw [List.getD, List.getElem?_eq_getElem (by omega)]
  simpa using e
theorem spx_mid {s : List UInt8} {f i : Nat} {z : UInt8} (hf : f ≤ i) (hi : i < s.length) (hz : s.getD i 0 = z) (hn : ∀ j, f ≤ j → j < i → ¬ s.getD j 0 = z) : spx z (s.drop f) = List.drop f (List.take i s) :: spx z (s.drop (i + 1)) := by
  have h1 : z ∉ List.drop f (List.take i s) := by
    intro hm
    obtain ⟨j, hj, e⟩ := List.getElem_of_mem hm
    rw [List.length_drop, List.length_take] at hj
    refine hn (f + j) (by omega) (by omega) ?_
    rw [List.getD, List.getElem?_eq_getElem (by omega)]
    simpa using e
  have h2 : s.drop f = List.drop f (List.take i s) ++ z :: s.drop (i + 1) := by
    have e : s[i] = z := by rw [List.getD, List.getElem?_eq_getElem hi] at hz; exact hz
    rw [← e, ← List.drop_eq_getElem_cons hi, List.drop_take]
    have : s.drop i = (s.drop f).drop (i - f) := by rw [List.drop_drop]; congr 1; omega
    rw [this, List.take_append_drop]
  rw [h2, spx_cut h1]
def SpJ (s : List UInt8) (out : List (List UInt8)) (f i : Nat) : Prop :=
  (i ≤ s.length ∧ f ≤ i ∧ out ++ spx 32 (s.drop f) = spx 32 s ∧ ∀ j, f ≤ j → j < i → ¬ s.getD j 0 = 32) ∨ (i = s.length + 1 ∧ out = spx 32 s)
theorem u32 {c : UInt8} : ((c.toNat : Int) = 32) ↔ c = 32 := ⟨fun h => UInt8.toNat_inj.1 (by have : (32 : UInt8).toNat = 32 := rfl; omega), fun h => by rw [h]; rfl⟩
set_option maxHeartbeats 4000000 in
theorem p_words (s : List UInt8) (hs : s.length ≤ 8000000) : CP Tryd.prog 70 [.str s] (.sl (some 9) 1 (strs (spx 32 s))) := by
  have hm : maxLen = 9223372036854775807 := rfl
  refine ok_ligref30_words _ _ (by simp) ?_
  simp only [c_ligref30_words, ↓Ed, Eu, ↓reduceIte, reduceCtorEq, Nat.reduceAdd, Nat.reduceEqDiff, Nat.reduceLT, Nat.reduceLeDiff, Int.reduceToNat, Int.reduceEq, Int.reduceLT, Int.reduceLE, w64, List.length_append, List.length_map, Nat.mul_one, List.append_assoc, Act.cs, or_self, eqA, List.take_length, List.getD_cons_zero, List.getD_cons_succ]
  repeat' ((first | refine NewB_intro0 (fun b => ?_) | (refine NewB_intro (fun b hb => ?_); simp only [ln_cons2, ln_nil, and_true] at hb) | (with_reducible apply And.intro; (focus (first | omega | (simp only [Fact, Bool.not_eq_true', Bool.not_eq_false', decide_eq_true_eq, decide_eq_false_iff_not] at *; omega)))) | ((first | refine gW_sp ?_ | refine condW_sp ?_ | refine pickW_sp ?_); (try refine Sp_n ?_); (first | refine Sp_t (by assumption) ?_ | refine Sp_f (by assumption) ?_ | refine Sp_split (fun h => ?_) (fun h => ?_)) <;> (first | have h' := Fact_lt h | have h' := Fact_nlt h | have h' := Fact_le h | have h' := Fact_nle h | skip) <;> (try (exfalso; omega))) | refine TreeW_intro (by rfl) ?_ | refine Two_intro ?_ ?_ | exact leK_lit (by simp [LeL, lk, *]) | (show (_ : Nat) ≤ _; omega)) <;> (try simp (disch := omega) only [*, ↓Ed, Eu, ↓reduceIte, reduceCtorEq, Nat.reduceAdd, Nat.reduceEqDiff, Nat.reduceLT, Nat.reduceLeDiff, Int.reduceToNat, Int.reduceEq, Int.reduceLT, Int.reduceLE, w64, List.length_append, List.length_map, Nat.mul_one, List.append_assoc, Act.cs, or_self, eqA, List.take_length, List.getD_cons_zero, List.getD_cons_succ]))
  refine wpx_loop (fun x : List (List UInt8) × Nat × Nat => ⟨lk [(0, .str s), (3, .sl (some 9) 1 (strs x.1)), (4, .int .i64 x.2.1), (5, .int .i64 x.2.2)], lk []⟩) (fun x => x.2.2 ≤ s.length + 1 ∧ x.1.length ≤ x.2.2 ∧ (x.2.2 ≤ s.length → x.2.1 ≤ x.2.2) ∧ Fact (SpJ s x.1 x.2.1 x.2.2)) (fun x => s.length + 1 - x.2.2) ([], 0, 0) ⟨by simp, by simp, by simp, .inl ⟨by simp, by simp, by simp, fun j h h2 => by simp only at h2; omega⟩⟩ (Le_lit (by simp [LeL, lk])) ?_
  rintro ⟨out, f, i⟩ ⟨h1, h2, h3, h4⟩
  simp only at h1 h2 h3 h4
  simp (disch := omega) only [↓Ed, Eu, ↓reduceIte, reduceCtorEq, Nat.reduceAdd, Nat.reduceEqDiff, Nat.reduceLT, Nat.reduceLeDiff, Int.reduceToNat, Int.reduceEq, Int.reduceLT, Int.reduceLE, w64, List.length_append, List.length_map, Nat.mul_one, List.append_assoc, Act.cs, or_self, eqA, List.take_length, List.getD_cons_zero, List.getD_cons_succ]
  repeat' ((first | refine NewB_intro0 (fun b => ?_) | (refine NewB_intro (fun b hb => ?_); simp only [ln_cons2, ln_nil, and_true] at hb) | (with_reducible apply And.intro; (focus (first | omega | (simp only [Fact, Bool.not_eq_true', Bool.not_eq_false', decide_eq_true_eq, decide_eq_false_iff_not] at *; omega)))) | ((first | refine gW_sp ?_ | refine condW_sp ?_ | refine pickW_sp ?_); (try refine Sp_n ?_); (first | refine Sp_t (by assumption) ?_ | refine Sp_f (by assumption) ?_ | refine Sp_split (fun h => ?_) (fun h => ?_)) <;> (first | have h' := Fact_lt h | have h' := Fact_nlt h | have h' := Fact_le h | have h' := Fact_nle h | skip) <;> (try (exfalso; omega))) | refine TreeW_intro (by rfl) ?_ | refine Two_intro ?_ ?_ | exact leK_lit (by simp [LeL, lk, *]) | (show (_ : Nat) ≤ _; omega)) <;> (try simp (disch := omega) only [*, ↓Ed, Eu, ↓reduceIte, reduceCtorEq, Nat.reduceAdd, Nat.reduceEqDiff, Nat.reduceLT, Nat.reduceLeDiff, Int.reduceToNat, Int.reduceEq, Int.reduceLT, Int.reduceLE, w64, List.length_append, List.length_map, Nat.mul_one, List.append_assoc, Act.cs, or_self, eqA, List.take_length, List.getD_cons_zero, List.getD_cons_succ]))
  all_goals (try simp only [Fact, Bool.not_eq_true', Bool.not_eq_false', decide_eq_true_eq, decide_eq_false_iff_not, u32] at *)
  case refine_2 =>
    rcases h4 with h4 | h4
    · omega
    · rw [h4.2]
  all_goals
    obtain ⟨_, g2, g3, g4⟩ : i ≤ s.length ∧ f ≤ i ∧ out ++ spx 32 (s.drop f) = spx 32 s ∧ ∀ j, f ≤ j → j < i → ¬ s.getD j 0 = 32 := by
      rcases h4 with h4 | h4
      · exact h4
      · omega
  · obtain rfl : i = s.length := by omega
    refine Round_lit (out ++ [List.drop f (List.take s.length s)], s.length + 1, s.length + 1) ⟨Le_lit (by simp [LeL, lk]), ⟨by simp, by simp; omega, by simp, .inr ⟨rfl, ?_⟩⟩, by simp only; omega⟩
    rw [List.take_length, ← g3, spx_last g4]
  · refine Round_lit (out ++ [List.drop f (List.take i s)], i + 1, i + 1) ⟨Le_lit (by simp [LeL, lk]), ⟨by simp only; omega, by simp; omega, by simp, .inl ⟨by simp only; omega, by simp, ?_, fun j hj hj2 => by simp only at hj hj2; omega⟩⟩, by simp only; omega⟩
    rw [← g3, spx_mid g2 (by omega) (by assumption) g4]
    simp
  · refine Round_lit (out, f, i + 1) ⟨Le_lit (by simp [LeL, lk]), ⟨by simp only; omega, by simp only; omega, by simp only; omega, .inl ⟨by simp only; omega, by simp only; omega, g3, fun j hj hj2 => ?_⟩⟩, by simp only; omega⟩
    by_cases e : j = i
    · subst e; assumption
    · exact g4 j hj (by simp only at hj2; omega)
theorem nil_len (s : List UInt8) : (s = []) = (s.length = 0) := propext List.length_eq_zero_iff.symm
theorem may_iff (x : Act) : mayQ x ↔ 1 ≤ x.k ∧ x.k ≤ 6 ∧ (x.k = 1 ∨ (x.c = 0 ∧ x.m = 0 ∧ (x.k = 2 ∨ x.n = 0) ∧ (x.k = 4 ∨ x.d.length = 0) ∧ (x.k = 5 ∨ x.k = 6 → x.s = 0))) ∧ 0 ≤ x.s ∧ x.s ≤ 1 ∧
    (0 ≤ x.c ∧ x.c ≤ 72057594037927935) ∧ (0 ≤ x.n ∧ x.n ≤ 72057594037927935) ∧ (0 ≤ x.m ∧ x.m ≤ 72057594037927935) := by
  have e : x = plainA x ↔ (x.k = 1 ∨ (x.c = 0 ∧ x.m = 0 ∧ (x.k = 2 ∨ x.n = 0) ∧ (x.k = 4 ∨ x.d.length = 0) ∧ (x.k = 5 ∨ x.k = 6 → x.s = 0))) := by
    obtain ⟨k, s, c, n, m, d⟩ := x
    simp only [plainA]
    by_cases h1 : k = 1
    · simp [h1]
    · rw [if_neg h1]
      simp only [Act.mk.injEq, ← nil_len]
      constructor
      · rintro ⟨_, g2, g3, g4, g5, g6⟩
        refine .inr ⟨g3, g5, ?_, ?_, fun h => by rw [if_pos h] at g2; exact g2⟩
        · by_cases h : k = 2
          · exact .inl h
          · rw [if_neg h] at g4; exact .inr g4
        · by_cases h : k = 4
          · exact .inl h
          · rw [if_neg h] at g6; exact .inr g6
      · rintro (g | ⟨g3, g5, g4, g6, g2⟩)
        · exact absurd g h1
        · refine ⟨trivial, ?_, g3, ?_, g5, ?_⟩
          · by_cases h : k = 5 ∨ k = 6
            · rw [if_pos h]; exact g2 h
            · rw [if_neg h]
          · by_cases h : k = 2
            · rw [if_pos h]
            · rw [if_neg h]; exact g4.resolve_left h
          · by_cases h : k = 4
            · rw [if_pos h]
            · rw [if_neg h]; exact g6.resolve_left h
  unfold mayQ rngN
  rw [e]
set_option maxHeartbeats 8000000 in
theorem p_MayAct (x : Act) : CP Tryd.prog 21 [.agg x.cs] (.bool (mayA x)) := by
  refine ok_ligref30_MayAct _ _ (by simp) ?_
  simp only [c_ligref30_MayAct, ↓Ed, Eu, ↓reduceIte, reduceCtorEq, Nat.reduceAdd, Nat.reduceEqDiff, Nat.reduceLT, Nat.reduceLeDiff, Int.reduceToNat, Int.reduceEq, Int.reduceLT, Int.reduceLE, w64, List.length_append, List.length_map, Nat.mul_one, List.append_assoc, Act.cs, or_self, eqA, List.take_length, List.getD_cons_zero, List.getD_cons_succ]
  repeat' ((first | refine NewB_intro0 (fun b => ?_) | (refine NewB_intro (fun b hb => ?_); simp only [ln_cons2, ln_nil, and_true] at hb) | (with_reducible apply And.intro; (focus (first | omega | (simp only [Fact, Bool.not_eq_true', Bool.not_eq_false', decide_eq_true_eq, decide_eq_false_iff_not] at *; omega)))) | ((first | refine gW_sp ?_ | refine condW_sp ?_ | refine pickW_sp ?_); (try refine Sp_n ?_); (first | refine Sp_t (by assumption) ?_ | refine Sp_f (by assumption) ?_ | refine Sp_split (fun h => ?_) (fun h => ?_)) <;> (first | have h' := Fact_lt h | have h' := Fact_nlt h | have h' := Fact_le h | have h' := Fact_nle h | skip) <;> (try (exfalso; omega))) | refine TreeW_intro (by rfl) ?_ | refine Two_intro ?_ ?_ | exact leK_lit (by simp [LeL, lk, *]) | (show (_ : Nat) ≤ _; omega)) <;> (try simp (disch := omega) only [*, ↓Ed, Eu, ↓reduceIte, reduceCtorEq, Nat.reduceAdd, Nat.reduceEqDiff, Nat.reduceLT, Nat.reduceLeDiff, Int.reduceToNat, Int.reduceEq, Int.reduceLT, Int.reduceLE, w64, List.length_append, List.length_map, Nat.mul_one, List.append_assoc, Act.cs, or_self, eqA, List.take_length, List.getD_cons_zero, List.getD_cons_succ]))
  all_goals simp only [Fact, Bool.not_eq_true', Bool.not_eq_false', decide_eq_true_eq, decide_eq_false_iff_not, Bool.true_and, Bool.and_true, Bool.and_eq_true, Bool.and_eq_false_imp, nil_len] at *
  all_goals first
    | exact (mayA_f fun g => by rw [may_iff] at g; omega).symm
    | exact mayA_f fun g => by rw [may_iff] at g; omega
    | exact (mayA_t (by rw [may_iff]; omega)).symm
    | exact mayA_t (by rw [may_iff]; omega)
    | (unfold mayA; rw [decide_eq_decide, may_iff]; omega)
end Go.Proofs.YtfkkjhnbbimcaaaDoor
