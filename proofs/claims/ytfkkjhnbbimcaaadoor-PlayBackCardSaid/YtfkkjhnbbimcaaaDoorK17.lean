import Derived.Test.YtfkkjhnbbimcaaaDoorK15
import Derived.Test.YtfkkjhnbbimcaaaDoorK16
/- chapter 32: the document's act, whole -/
namespace Go.Proofs.YtfkkjhnbbimcaaaDoor
set_option linter.all false
open Go.RowKit
set_option maxRecDepth 100000
theorem num_it2 {n : Int} (h : rngN n) : (numP (Lib.itoa n)).2 = 0 := by
  rw [itoa_dig h.1, num_dig (by unfold rngN at h; omega)]
theorem hexOk_hexA (d : List UInt8) : hexOk (hexA d) := by
  unfold hexA
  split
  · exact .inl rfl
  · rename_i h
    refine .inr ⟨?_, fun e => ?_⟩
    · simp only [frB, unh_hexL, hexL_len]; simp
    · have := congrArg List.length e
      rw [hexL_len] at this
      have := List.length_pos_iff.2 h
      simp at *; omega
theorem docOk_words {x : Act} (h : mayQ x) : DocOk (wordsA x) := by
  obtain ⟨h1, h2, h3, h4, h5, hc, hn, hm⟩ := h
  obtain ⟨k, s, c, n, m, d⟩ := x
  simp only at h1 h2 h3 h4 h5 hc hn hm
  have hk : k = 1 ∨ k = 2 ∨ k = 3 ∨ k = 4 ∨ k = 5 ∨ k = 6 := by omega
  have hs : s = 0 ∨ s = 1 := by omega
  have e1 : ∀ j : Int, 1 ≤ j → j ≤ 6 → kindA (wd j) = j := fun j a b => kind_wd ⟨a, b⟩
  clear h3
  rcases hk with rfl | rfl | rfl | rfl | rfl | rfl <;> rcases hs with rfl | rfl
  all_goals
    refine ⟨?_, ?_, ?_, ?_, ?_, ?_, ?_⟩
    all_goals simp [wordsA, e1, want, sideW, num_it2, hc, hn, hm, hexOk_hexA]
open Classical in
noncomputable def docX (t : List UInt8) : Act := if DocOk (spx 32 t) then readA (spx 32 t) else Act.zero
theorem docX_of {t : List UInt8} {x : Act} (h : lnA t = some x) : docX t = x := by
  obtain ⟨h1, rfl⟩ := lnA_some.1 h
  unfold docX
  rw [body_sp h1, if_pos (docOk_words h1), read_words h1]
theorem doc_no {t : List UInt8} (h : ¬ DocOk (spx 32 t)) : lnA t = none := by
  cases e : lnA t with
  | none => rfl
  | some x =>
    obtain ⟨h1, rfl⟩ := lnA_some.1 e
    exact absurd (by rw [body_sp h1]; exact docOk_words h1) h
theorem doc_yes (t : List UInt8) : (mayA (readA (spx 32 t)) && decide (lineA (readA (spx 32 t)) = t ++ [10])) = (lnA t).isSome := by
  have e : lineA (readA (spx 32 t)) = t ++ [10] ↔ bodyA (readA (spx 32 t)) = t := by
    unfold lineA
    exact ⟨fun h => (List.append_inj' h rfl).1, fun h => by rw [h]⟩
  unfold lnA
  by_cases hm : mayA (readA (spx 32 t)) = true
  · by_cases hb : bodyA (readA (spx 32 t)) = t
    · rw [if_pos ⟨hm, hb⟩, hm, decide_eq_true (e.2 hb)]; rfl
    · rw [if_neg (fun g => hb g.2), hm, decide_eq_false (fun g => hb (e.1 g))]; rfl
  · rw [if_neg (fun g => hm g.1), Bool.eq_false_iff.2 hm]; rfl
theorem p_act (t : List UInt8) (ht : t.length ≤ 8000000) : CP Tryd.prog 43 [.str t] (.tup [.agg (docX t).cs, .bool (lnA t).isSome]) := by
  have hr : ActR t (.tup [.agg (docX t).cs, .bool (lnA t).isSome]) := by
    refine ⟨fun h => ?_, fun h => ?_⟩
    · rw [doc_no h]; unfold docX; rw [if_neg h]; rfl
    · rw [doc_yes]; unfold docX; rw [if_pos h]
  rcases kind_rng ((spx 32 t).getD 0 []) with h | h | h | h | h | h | h
  · exact p_act0 t ht _ hr h
  · exact p_act1 t ht _ hr h
  · exact p_act2 t ht _ hr h
  · exact p_act3 t ht _ hr h
  · exact p_act4 t ht _ hr h
  · exact p_act5 t ht _ hr h
  · exact p_act6 t ht _ hr h
end Go.Proofs.YtfkkjhnbbimcaaaDoor

/- chapter 32: the document's Print and Parse -/
namespace Go.Proofs.YtfkkjhnbbimcaaaDoor
set_option linter.all false
open Go.RowKit
set_option maxRecDepth 100000
theorem u10 {c : UInt8} : ((c.toNat : Int) = 10) = (c = 10) := propext ⟨fun h => UInt8.toNat_inj.1 (by have : (10 : UInt8).toNat = 10 := rfl; omega), fun h => by rw [h]; rfl⟩
set_option maxHeartbeats 4000000 in
theorem p_rPrint (own : Option Nat) (l : List Act) (hl : l.length ≤ 1000000) (hd : ∀ x ∈ l, x.d.length ≤ 10000) : CP Tryd.prog 16 [.sl own 6 (acts l)] (.tup [.str (printA l).1, .int .i64 (printA l).2]) := by
  refine ok_ligref30_Print _ _ (by simp) ?_
  simp only [c_ligref30_Print, ↓Ed, Eu, ↓reduceIte, reduceCtorEq, Nat.reduceAdd, Nat.reduceEqDiff, Nat.reduceLT, Nat.reduceLeDiff, Int.reduceToNat, Int.reduceEq, Int.reduceLT, Int.reduceLE, w64, List.length_append, List.length_map, Nat.mul_one, Act.cs, gdA, u10]
  repeat' ((first | refine NewB_intro0 (fun b => ?_) | (refine NewB_intro (fun b hb => ?_); simp only [ln_cons2, ln_nil, and_true] at hb) | (with_reducible apply And.intro; (focus (first | omega | (simp only [Fact, Bool.not_eq_true', Bool.not_eq_false', decide_eq_true_eq, decide_eq_false_iff_not] at *; omega)))) | ((first | refine gW_sp ?_ | refine condW_sp ?_ | refine pickW_sp ?_); (try refine Sp_n ?_); (first | refine Sp_t (by assumption) ?_ | refine Sp_f (by assumption) ?_ | refine Sp_split (fun h => ?_) (fun h => ?_)) <;> (first | have h' := Fact_lt h | have h' := Fact_nlt h | have h' := Fact_le h | have h' := Fact_nle h | skip) <;> (try (exfalso; omega))) | refine TreeW_intro (by rfl) ?_ | refine Two_intro ?_ ?_ | exact leK_lit (by simp [LeL, lk, *]) | (show (_ : Nat) ≤ _; omega)) <;> (try simp (disch := omega) only [*, ↓Ed, Eu, ↓reduceIte, reduceCtorEq, Nat.reduceAdd, Nat.reduceEqDiff, Nat.reduceLT, Nat.reduceLeDiff, Int.reduceToNat, Int.reduceEq, Int.reduceLT, Int.reduceLE, w64, List.length_append, List.length_map, Nat.mul_one, Act.cs, gdA, u10]))
  · simp only [Fact, Bool.not_eq_true', Bool.not_eq_false', decide_eq_true_eq, decide_eq_false_iff_not] at h; unfold printA; rw [if_pos (by omega)]; exact ⟨rfl, rfl⟩
  have h4 : ¬ 400 < l.length := by simp only [Fact, Bool.not_eq_true', Bool.not_eq_false', decide_eq_true_eq, decide_eq_false_iff_not] at h; omega
  refine wpx_loop (fun k : Nat => ⟨lk [(0, .sl none 6 (acts l)), (4, .str ((l.take k).flatMap lineA)), (5, .int .i64 (k : Int))], lk []⟩) (fun k => k ≤ l.length ∧ Fact (∀ j, j < k → mayA (l.getD j default) = true)) (fun k => l.length - k) 0 ⟨by omega, fun j hj => by omega⟩ (Le_lit (by simp [LeL, lk])) ?_
  rintro k ⟨h1, h2⟩
  have hlen := fm_len hd k h1 h2
  by_cases hk : k < l.length
  · have hdx := hd (l.getD k default) (by rw [List.getD, List.getElem?_eq_getElem hk]; exact List.getElem_mem _)
    have hp := p_MayAct (l.getD k default)
    cases hmay : mayA (l.getD k default) with
    | false =>
      rw [print_bad h4 hk hmay]
      rw [hmay] at hp
      simp (disch := omega) only [↓Ed, Eu, ↓reduceIte, reduceCtorEq, Nat.reduceAdd, Nat.reduceEqDiff, Nat.reduceLT, Nat.reduceLeDiff, Int.reduceToNat, Int.reduceEq, Int.reduceLT, Int.reduceLE, w64, List.length_append, List.length_map, Nat.mul_one, Act.cs, gdA, u10]
      repeat' ((first | refine CallO_pure (hp) ?_ | refine NewB_intro0 (fun b => ?_) | (refine NewB_intro (fun b hb => ?_); simp only [ln_cons2, ln_nil, and_true] at hb) | (with_reducible apply And.intro; (focus (first | omega | (simp only [Fact, Bool.not_eq_true', Bool.not_eq_false', decide_eq_true_eq, decide_eq_false_iff_not] at *; omega)))) | ((first | refine gW_sp ?_ | refine condW_sp ?_ | refine pickW_sp ?_); (try refine Sp_n ?_); (first | refine Sp_t (by assumption) ?_ | refine Sp_f (by assumption) ?_ | refine Sp_split (fun h => ?_) (fun h => ?_)) <;> (first | have h' := Fact_lt h | have h' := Fact_nlt h | have h' := Fact_le h | have h' := Fact_nle h | skip) <;> (try (exfalso; omega))) | refine TreeW_intro (by rfl) ?_ | refine Two_intro ?_ ?_ | exact leK_lit (by simp [LeL, lk, *]) | (show (_ : Nat) ≤ _; omega)) <;> (try simp (disch := omega) only [*, ↓Ed, Eu, ↓reduceIte, reduceCtorEq, Nat.reduceAdd, Nat.reduceEqDiff, Nat.reduceLT, Nat.reduceLeDiff, Int.reduceToNat, Int.reduceEq, Int.reduceLT, Int.reduceLE, w64, List.length_append, List.length_map, Nat.mul_one, Act.cs, gdA, u10]))
    | true =>
      have hq : mayQ (l.getD k default) := of_decide_eq_true hmay
      rw [hmay] at hp
      have hb2 := body_len hq
      have hln := p_Line (l.getD k default) hq (by omega)
      have hl2 : (lineA (l.getD k default)).length ≤ 30000 := by simp only [lineA, List.length_append, List.length_cons, List.length_nil]; omega
      have hst := fm_step hk
      simp (disch := omega) only [↓Ed, Eu, ↓reduceIte, reduceCtorEq, Nat.reduceAdd, Nat.reduceEqDiff, Nat.reduceLT, Nat.reduceLeDiff, Int.reduceToNat, Int.reduceEq, Int.reduceLT, Int.reduceLE, w64, List.length_append, List.length_map, Nat.mul_one, Act.cs, gdA, u10]
      repeat' ((first | refine CallO_pure (hp) ?_ | refine CallO_pure (hln) ?_ | refine NewB_intro0 (fun b => ?_) | (refine NewB_intro (fun b hb => ?_); simp only [ln_cons2, ln_nil, and_true] at hb) | (with_reducible apply And.intro; (focus (first | omega | (simp only [Fact, Bool.not_eq_true', Bool.not_eq_false', decide_eq_true_eq, decide_eq_false_iff_not] at *; omega)))) | ((first | refine gW_sp ?_ | refine condW_sp ?_ | refine pickW_sp ?_); (try refine Sp_n ?_); (first | refine Sp_t (by assumption) ?_ | refine Sp_f (by assumption) ?_ | refine Sp_split (fun h => ?_) (fun h => ?_)) <;> (first | have h' := Fact_lt h | have h' := Fact_nlt h | have h' := Fact_le h | have h' := Fact_nle h | skip) <;> (try (exfalso; omega))) | refine TreeW_intro (by rfl) ?_ | refine Two_intro ?_ ?_ | exact leK_lit (by simp [LeL, lk, *]) | (show (_ : Nat) ≤ _; omega)) <;> (try simp (disch := omega) only [*, ↓Ed, Eu, ↓reduceIte, reduceCtorEq, Nat.reduceAdd, Nat.reduceEqDiff, Nat.reduceLT, Nat.reduceLeDiff, Int.reduceToNat, Int.reduceEq, Int.reduceLT, Int.reduceLE, w64, List.length_append, List.length_map, Nat.mul_one, Act.cs, gdA, u10]))
      exact Round_lit (k + 1) ⟨Le_lit (by simp [LeL, lk, hst]), ⟨by omega, may_step h2 hmay⟩, by omega⟩
  · obtain rfl : k = l.length := by omega
    rw [print_ok h4 h2]
    simp (disch := omega) only [↓Ed, Eu, ↓reduceIte, reduceCtorEq, Nat.reduceAdd, Nat.reduceEqDiff, Nat.reduceLT, Nat.reduceLeDiff, Int.reduceToNat, Int.reduceEq, Int.reduceLT, Int.reduceLE, w64, List.length_append, List.length_map, Nat.mul_one, Act.cs, gdA, u10]
    repeat' ((first | refine NewB_intro0 (fun b => ?_) | (refine NewB_intro (fun b hb => ?_); simp only [ln_cons2, ln_nil, and_true] at hb) | (with_reducible apply And.intro; (focus (first | omega | (simp only [Fact, Bool.not_eq_true', Bool.not_eq_false', decide_eq_true_eq, decide_eq_false_iff_not] at *; omega)))) | ((first | refine gW_sp ?_ | refine condW_sp ?_ | refine pickW_sp ?_); (try refine Sp_n ?_); (first | refine Sp_t (by assumption) ?_ | refine Sp_f (by assumption) ?_ | refine Sp_split (fun h => ?_) (fun h => ?_)) <;> (first | have h' := Fact_lt h | have h' := Fact_nlt h | have h' := Fact_le h | have h' := Fact_nle h | skip) <;> (try (exfalso; omega))) | refine TreeW_intro (by rfl) ?_ | refine Two_intro ?_ ?_ | exact leK_lit (by simp [LeL, lk, *]) | (show (_ : Nat) ≤ _; omega)) <;> (try simp (disch := omega) only [*, ↓Ed, Eu, ↓reduceIte, reduceCtorEq, Nat.reduceAdd, Nat.reduceEqDiff, Nat.reduceLT, Nat.reduceLeDiff, Int.reduceToNat, Int.reduceEq, Int.reduceLT, Int.reduceLE, w64, List.length_append, List.length_map, Nat.mul_one, Act.cs, gdA, u10]))
    rw [List.take_length]
theorem cut_mid {s : List UInt8} {f i : Nat} (hf : f ≤ i) (hi : i < s.length) (hz : s.getD i 0 = 10) (hn : ∀ j, f ≤ j → j < i → ¬ s.getD j 0 = 10) : cutL (s.drop f) = some (List.drop f (List.take i s), s.drop (i + 1)) := by
  refine cutL_some.2 ⟨?_, ?_⟩
  · have e : s[i] = 10 := by rw [List.getD, List.getElem?_eq_getElem hi] at hz; exact hz
    rw [← e, ← List.drop_eq_getElem_cons hi, List.drop_take]
    have : s.drop i = (s.drop f).drop (i - f) := by rw [List.drop_drop]; congr 1; omega
    rw [this, List.take_append_drop]
  · intro hm
    obtain ⟨j, hj, e⟩ := List.getElem_of_mem hm
    rw [List.length_drop, List.length_take] at hj
    refine hn (f + j) (by omega) (by omega) ?_
    rw [List.getD, List.getElem?_eq_getElem (by omega)]
    simpa using e
theorem cut_end {s : List UInt8} {f : Nat} (hn : ∀ j, f ≤ j → j < s.length → ¬ s.getD j 0 = 10) : cutL (s.drop f) = none := by
  refine cutL_none.2 fun hm => ?_
  obtain ⟨j, hj, e⟩ := List.getElem_of_mem hm
  rw [List.length_drop] at hj
  refine hn (f + j) (by omega) (by omega) ?_
  rw [List.getD, List.getElem?_eq_getElem (by omega)]
  simpa using e
theorem drop_ne {s : List UInt8} {f : Nat} (h : f < s.length) : s.drop f ≠ [] := by
  intro e
  have := congrArg List.length e
  simp at this; omega
set_option maxHeartbeats 8000000 in
theorem p_rParse (s : List UInt8) (hs : s.length ≤ 8000000) : CP Tryd.prog 18 [.str s] (.tup [.sl none 6 (acts (parseA s).1), .int .i64 (parseA s).2.1, .int .i64 (parseA s).2.2]) := by
  have hm : maxLen = 9223372036854775807 := rfl
  refine ok_ligref30_Parse _ _ (by simp) ?_
  simp only [c_ligref30_Parse, ↓Ed, Eu, ↓reduceIte, reduceCtorEq, Nat.reduceAdd, Nat.reduceEqDiff, Nat.reduceLT, Nat.reduceLeDiff, Int.reduceToNat, Int.reduceEq, Int.reduceLT, Int.reduceLE, w64, List.length_append, List.length_map, Nat.mul_one, Act.cs, gdA, u10]
  repeat' ((first | refine NewB_intro0 (fun b => ?_) | (refine NewB_intro (fun b hb => ?_); simp only [ln_cons2, ln_nil, and_true] at hb) | (with_reducible apply And.intro; (focus (first | omega | (simp only [Fact, Bool.not_eq_true', Bool.not_eq_false', decide_eq_true_eq, decide_eq_false_iff_not] at *; omega)))) | ((first | refine gW_sp ?_ | refine condW_sp ?_ | refine pickW_sp ?_); (try refine Sp_n ?_); (first | refine Sp_t (by assumption) ?_ | refine Sp_f (by assumption) ?_ | refine Sp_split (fun h => ?_) (fun h => ?_)) <;> (first | have h' := Fact_lt h | have h' := Fact_nlt h | have h' := Fact_le h | have h' := Fact_nle h | skip) <;> (try (exfalso; omega))) | refine TreeW_intro (by rfl) ?_ | refine Two_intro ?_ ?_ | exact leK_lit (by simp [LeL, lk, *]) | (show (_ : Nat) ≤ _; omega)) <;> (try simp (disch := omega) only [*, ↓Ed, Eu, ↓reduceIte, reduceCtorEq, Nat.reduceAdd, Nat.reduceEqDiff, Nat.reduceLT, Nat.reduceLeDiff, Int.reduceToNat, Int.reduceEq, Int.reduceLT, Int.reduceLE, w64, List.length_append, List.length_map, Nat.mul_one, Act.cs, gdA, u10]))
  refine wpx_loop (fun x : List Act × Nat × Nat => ⟨lk [(0, .str s), (5, .sl (some 44) 6 (acts x.1)), (6, .int .i64 (x.2.1 : Int)), (7, .int .i64 (x.2.2 : Int))], lk []⟩) (fun x => x.2.1 ≤ x.2.2 ∧ x.2.2 ≤ s.length ∧ x.1.length ≤ 400 ∧ (x.2.2 = s.length → x.2.1 = x.2.2) ∧ Fact (parseA s = restA x.1 (s.drop x.2.1) ∧ ∀ j, x.2.1 ≤ j → j < x.2.2 → ¬ s.getD j 0 = 10)) (fun x => s.length - x.2.2) ([], 0, 0) ⟨by simp, by simp, by simp, by simp, parse_rest s, fun j h1 h2 => by simp only at h2; omega⟩ (Le_lit (by simp [LeL, lk])) ?_
  rintro ⟨out, f, i⟩ ⟨h1, h2, h3, h4, h5⟩
  simp only at h1 h2 h3 h4 h5
  have h6 : parseA s = restA out (s.drop f) := h5.1
  have h7 : ∀ j, f ≤ j → j < i → ¬ s.getD j 0 = 10 := h5.2
  rw [h6]
  by_cases hi : i = s.length
  · obtain rfl := h4 hi
    have hr : restA out (s.drop f) = (out, 0, 0) := by rw [hi, List.drop_length, rest_nil]
    rw [hr]
    clear h5 h6 h7 hr
    simp (disch := omega) only [↓Ed, Eu, ↓reduceIte, reduceCtorEq, Nat.reduceAdd, Nat.reduceEqDiff, Nat.reduceLT, Nat.reduceLeDiff, Int.reduceToNat, Int.reduceEq, Int.reduceLT, Int.reduceLE, w64, List.length_append, List.length_map, Nat.mul_one, Act.cs, gdA, u10]
    repeat' ((first | refine NewB_intro0 (fun b => ?_) | (refine NewB_intro (fun b hb => ?_); simp only [ln_cons2, ln_nil, and_true] at hb) | (with_reducible apply And.intro; (focus (first | omega | (simp only [Fact, Bool.not_eq_true', Bool.not_eq_false', decide_eq_true_eq, decide_eq_false_iff_not] at *; omega)))) | ((first | refine gW_sp ?_ | refine condW_sp ?_ | refine pickW_sp ?_); (try refine Sp_n ?_); (first | refine Sp_t (by assumption) ?_ | refine Sp_f (by assumption) ?_ | refine Sp_split (fun h => ?_) (fun h => ?_)) <;> (first | have h' := Fact_lt h | have h' := Fact_nlt h | have h' := Fact_le h | have h' := Fact_nle h | skip) <;> (try (exfalso; omega))) | refine TreeW_intro (by rfl) ?_ | refine Two_intro ?_ ?_ | exact leK_lit (by simp [LeL, lk, *]) | (show (_ : Nat) ≤ _; omega)) <;> (try simp (disch := omega) only [*, ↓Ed, Eu, ↓reduceIte, reduceCtorEq, Nat.reduceAdd, Nat.reduceEqDiff, Nat.reduceLT, Nat.reduceLeDiff, Int.reduceToNat, Int.reduceEq, Int.reduceLT, Int.reduceLE, w64, List.length_append, List.length_map, Nat.mul_one, Act.cs, gdA, u10]))
    all_goals (try (exfalso; simp only [Fact, Bool.not_eq_true', Bool.not_eq_false', decide_eq_true_eq, decide_eq_false_iff_not] at *; omega))
  have hil : i < s.length := by omega
  by_cases hz : s.getD i 0 = 10
  · have hc := cut_mid h1 hil hz h7
    by_cases hf : out.length = 400
    · rw [rest_full (drop_ne (by omega)) hf]
      clear h5 h6 h7 hc
      simp (disch := omega) only [hz, ↓Ed, Eu, ↓reduceIte, reduceCtorEq, Nat.reduceAdd, Nat.reduceEqDiff, Nat.reduceLT, Nat.reduceLeDiff, Int.reduceToNat, Int.reduceEq, Int.reduceLT, Int.reduceLE, w64, List.length_append, List.length_map, Nat.mul_one, Act.cs, gdA, u10]
      repeat' ((first | refine NewB_intro0 (fun b => ?_) | (refine NewB_intro (fun b hb => ?_); simp only [ln_cons2, ln_nil, and_true] at hb) | (with_reducible apply And.intro; (focus (first | omega | (simp only [Fact, Bool.not_eq_true', Bool.not_eq_false', decide_eq_true_eq, decide_eq_false_iff_not] at *; omega)))) | ((first | refine gW_sp ?_ | refine condW_sp ?_ | refine pickW_sp ?_); (try refine Sp_n ?_); (first | refine Sp_t (by assumption) ?_ | refine Sp_f (by assumption) ?_ | refine Sp_split (fun h => ?_) (fun h => ?_)) <;> (first | have h' := Fact_lt h | have h' := Fact_nlt h | have h' := Fact_le h | have h' := Fact_nle h | skip) <;> (try (exfalso; omega))) | refine TreeW_intro (by rfl) ?_ | refine Two_intro ?_ ?_ | exact leK_lit (by simp [LeL, lk, *]) | (show (_ : Nat) ≤ _; omega)) <;> (try simp (disch := omega) only [*, ↓Ed, Eu, ↓reduceIte, reduceCtorEq, Nat.reduceAdd, Nat.reduceEqDiff, Nat.reduceLT, Nat.reduceLeDiff, Int.reduceToNat, Int.reduceEq, Int.reduceLT, Int.reduceLE, w64, List.length_append, List.length_map, Nat.mul_one, Act.cs, gdA, u10]))
      all_goals (try (exfalso; simp only [Fact, Bool.not_eq_true', Bool.not_eq_false', decide_eq_true_eq, decide_eq_false_iff_not] at *; omega))
    · have ha := p_act (List.drop f (List.take i s)) (by rw [List.length_drop, List.length_take]; omega)
      have hf' : ¬ (out.length : Int) = 400 := by omega
      cases hx : lnA (List.drop f (List.take i s)) with
      | none =>
        rw [rest_bad (drop_ne (by omega)) hf (fun t r e => by rw [hc] at e; cases e; exact hx)]
        rw [hx] at ha
        clear h5 h6 h7 hc
        simp (disch := omega) only [hz, ↓Ed, Eu, ↓reduceIte, reduceCtorEq, Nat.reduceAdd, Nat.reduceEqDiff, Nat.reduceLT, Nat.reduceLeDiff, Int.reduceToNat, Int.reduceEq, Int.reduceLT, Int.reduceLE, w64, List.length_append, List.length_map, Nat.mul_one, Act.cs, gdA, u10]
        repeat' ((first | refine CallO_pure (ha) ?_ | refine NewB_intro0 (fun b => ?_) | (refine NewB_intro (fun b hb => ?_); simp only [ln_cons2, ln_nil, and_true] at hb) | (with_reducible apply And.intro; (focus (first | omega | (simp only [Fact, Bool.not_eq_true', Bool.not_eq_false', decide_eq_true_eq, decide_eq_false_iff_not] at *; omega)))) | ((first | refine gW_sp ?_ | refine condW_sp ?_ | refine pickW_sp ?_); (try refine Sp_n ?_); (first | refine Sp_t (by assumption) ?_ | refine Sp_f (by assumption) ?_ | refine Sp_split (fun h => ?_) (fun h => ?_)) <;> (first | have h' := Fact_lt h | have h' := Fact_nlt h | have h' := Fact_le h | have h' := Fact_nle h | skip) <;> (try (exfalso; omega))) | refine TreeW_intro (by rfl) ?_ | refine Two_intro ?_ ?_ | exact leK_lit (by simp [LeL, lk, *]) | (show (_ : Nat) ≤ _; omega)) <;> (try simp (disch := omega) only [*, ↓Ed, Eu, ↓reduceIte, reduceCtorEq, Nat.reduceAdd, Nat.reduceEqDiff, Nat.reduceLT, Nat.reduceLeDiff, Int.reduceToNat, Int.reduceEq, Int.reduceLT, Int.reduceLE, w64, List.length_append, List.length_map, Nat.mul_one, Act.cs, gdA, u10]))
        all_goals (try (exfalso; simp only [Fact, Bool.not_eq_true', Bool.not_eq_false', decide_eq_true_eq, decide_eq_false_iff_not] at *; omega))
        all_goals (try (exfalso; simp only [Fact, Bool.not_eq_true', Bool.not_eq_false', decide_eq_true_eq, decide_eq_false_iff_not] at *; contradiction))
      | some x =>
        have hst := rest_step hf hc hx
        rw [docX_of hx, hx] at ha
        rw [hst]
        have hI : Fact (parseA s = restA (out ++ [x]) (s.drop (i + 1))) := h6.trans hst
        clear h5 h6 hc hst
        generalize hR : restA (out ++ [x]) (s.drop (i + 1)) = R at hI ⊢
        simp (disch := omega) only [hz, ↓Ed, Eu, ↓reduceIte, reduceCtorEq, Nat.reduceAdd, Nat.reduceEqDiff, Nat.reduceLT, Nat.reduceLeDiff, Int.reduceToNat, Int.reduceEq, Int.reduceLT, Int.reduceLE, w64, List.length_append, List.length_map, Nat.mul_one, Act.cs, gdA, u10]
        repeat' ((first | refine CallO_pure (ha) ?_ | refine NewB_intro0 (fun b => ?_) | (refine NewB_intro (fun b hb => ?_); simp only [ln_cons2, ln_nil, and_true] at hb) | (with_reducible apply And.intro; (focus (first | omega | (simp only [Fact, Bool.not_eq_true', Bool.not_eq_false', decide_eq_true_eq, decide_eq_false_iff_not] at *; omega)))) | ((first | refine gW_sp ?_ | refine condW_sp ?_ | refine pickW_sp ?_); (try refine Sp_n ?_); (first | refine Sp_t (by assumption) ?_ | refine Sp_f (by assumption) ?_ | refine Sp_split (fun h => ?_) (fun h => ?_)) <;> (first | have h' := Fact_lt h | have h' := Fact_nlt h | have h' := Fact_le h | have h' := Fact_nle h | skip) <;> (try (exfalso; omega))) | refine TreeW_intro (by rfl) ?_ | refine Two_intro ?_ ?_ | exact leK_lit (by simp [LeL, lk, *]) | (show (_ : Nat) ≤ _; omega)) <;> (try simp (disch := omega) only [*, ↓Ed, Eu, ↓reduceIte, reduceCtorEq, Nat.reduceAdd, Nat.reduceEqDiff, Nat.reduceLT, Nat.reduceLeDiff, Int.reduceToNat, Int.reduceEq, Int.reduceLT, Int.reduceLE, w64, List.length_append, List.length_map, Nat.mul_one, Act.cs, gdA, u10]))
        · exact Round_lit (out ++ [x], i + 1, i + 1) ⟨Le_lit (by simp [LeL, lk, acts, Act.cs]), ⟨by simp, by simp only; omega, by simp; omega, by simp, ⟨hR.symm, fun j a b => by simp only at a b; omega⟩⟩, by simp only; omega⟩
        · exfalso; simp [Fact] at h
  · by_cases hl : i + 1 < s.length
    · generalize hR : restA out (s.drop f) = R at *
      clear h6
      simp (disch := omega) only [hz, ↓Ed, Eu, ↓reduceIte, reduceCtorEq, Nat.reduceAdd, Nat.reduceEqDiff, Nat.reduceLT, Nat.reduceLeDiff, Int.reduceToNat, Int.reduceEq, Int.reduceLT, Int.reduceLE, w64, List.length_append, List.length_map, Nat.mul_one, Act.cs, gdA, u10]
      repeat' ((first | refine NewB_intro0 (fun b => ?_) | (refine NewB_intro (fun b hb => ?_); simp only [ln_cons2, ln_nil, and_true] at hb) | (with_reducible apply And.intro; (focus (first | omega | (simp only [Fact, Bool.not_eq_true', Bool.not_eq_false', decide_eq_true_eq, decide_eq_false_iff_not] at *; omega)))) | ((first | refine gW_sp ?_ | refine condW_sp ?_ | refine pickW_sp ?_); (try refine Sp_n ?_); (first | refine Sp_t (by assumption) ?_ | refine Sp_f (by assumption) ?_ | refine Sp_split (fun h => ?_) (fun h => ?_)) <;> (first | have h' := Fact_lt h | have h' := Fact_nlt h | have h' := Fact_le h | have h' := Fact_nle h | skip) <;> (try (exfalso; omega))) | refine TreeW_intro (by rfl) ?_ | refine Two_intro ?_ ?_ | exact leK_lit (by simp [LeL, lk, *]) | (show (_ : Nat) ≤ _; omega)) <;> (try simp (disch := omega) only [*, ↓Ed, Eu, ↓reduceIte, reduceCtorEq, Nat.reduceAdd, Nat.reduceEqDiff, Nat.reduceLT, Nat.reduceLeDiff, Int.reduceToNat, Int.reduceEq, Int.reduceLT, Int.reduceLE, w64, List.length_append, List.length_map, Nat.mul_one, Act.cs, gdA, u10]))
      refine Round_lit (out, f, i + 1) ⟨Le_lit (by simp [LeL, lk]), ⟨by simp only; omega, by simp only; omega, by simp only; omega, by simp only; omega, ⟨hR.symm, fun j a b => ?_⟩⟩, by simp only; omega⟩
      by_cases e : j = i
      · subst e; exact hz
      · exact h7 j a (by simp only at b; omega)
    · have hc : cutL (s.drop f) = none := cut_end fun j a b => by
        by_cases e : j = i
        · subst e; exact hz
        · exact h7 j a (by omega)
      by_cases hf : out.length = 400
      · rw [rest_full (drop_ne (by omega)) hf]
        clear h5 h6 h7 hc
        simp (disch := omega) only [hz, ↓Ed, Eu, ↓reduceIte, reduceCtorEq, Nat.reduceAdd, Nat.reduceEqDiff, Nat.reduceLT, Nat.reduceLeDiff, Int.reduceToNat, Int.reduceEq, Int.reduceLT, Int.reduceLE, w64, List.length_append, List.length_map, Nat.mul_one, Act.cs, gdA, u10]
        repeat' ((first | refine NewB_intro0 (fun b => ?_) | (refine NewB_intro (fun b hb => ?_); simp only [ln_cons2, ln_nil, and_true] at hb) | (with_reducible apply And.intro; (focus (first | omega | (simp only [Fact, Bool.not_eq_true', Bool.not_eq_false', decide_eq_true_eq, decide_eq_false_iff_not] at *; omega)))) | ((first | refine gW_sp ?_ | refine condW_sp ?_ | refine pickW_sp ?_); (try refine Sp_n ?_); (first | refine Sp_t (by assumption) ?_ | refine Sp_f (by assumption) ?_ | refine Sp_split (fun h => ?_) (fun h => ?_)) <;> (first | have h' := Fact_lt h | have h' := Fact_nlt h | have h' := Fact_le h | have h' := Fact_nle h | skip) <;> (try (exfalso; omega))) | refine TreeW_intro (by rfl) ?_ | refine Two_intro ?_ ?_ | exact leK_lit (by simp [LeL, lk, *]) | (show (_ : Nat) ≤ _; omega)) <;> (try simp (disch := omega) only [*, ↓Ed, Eu, ↓reduceIte, reduceCtorEq, Nat.reduceAdd, Nat.reduceEqDiff, Nat.reduceLT, Nat.reduceLeDiff, Int.reduceToNat, Int.reduceEq, Int.reduceLT, Int.reduceLE, w64, List.length_append, List.length_map, Nat.mul_one, Act.cs, gdA, u10]))
        all_goals (try (exfalso; simp only [Fact, Bool.not_eq_true', Bool.not_eq_false', decide_eq_true_eq, decide_eq_false_iff_not] at *; omega))
      · rw [rest_bad (drop_ne (by omega)) hf (fun t r e => by rw [hc] at e; cases e)]
        clear h5 h6 h7 hc
        have hf' : ¬ (out.length : Int) = 400 := by omega
        simp (disch := omega) only [hz, ↓Ed, Eu, ↓reduceIte, reduceCtorEq, Nat.reduceAdd, Nat.reduceEqDiff, Nat.reduceLT, Nat.reduceLeDiff, Int.reduceToNat, Int.reduceEq, Int.reduceLT, Int.reduceLE, w64, List.length_append, List.length_map, Nat.mul_one, Act.cs, gdA, u10]
        repeat' ((first | refine NewB_intro0 (fun b => ?_) | (refine NewB_intro (fun b hb => ?_); simp only [ln_cons2, ln_nil, and_true] at hb) | (with_reducible apply And.intro; (focus (first | omega | (simp only [Fact, Bool.not_eq_true', Bool.not_eq_false', decide_eq_true_eq, decide_eq_false_iff_not] at *; omega)))) | ((first | refine gW_sp ?_ | refine condW_sp ?_ | refine pickW_sp ?_); (try refine Sp_n ?_); (first | refine Sp_t (by assumption) ?_ | refine Sp_f (by assumption) ?_ | refine Sp_split (fun h => ?_) (fun h => ?_)) <;> (first | have h' := Fact_lt h | have h' := Fact_nlt h | have h' := Fact_le h | have h' := Fact_nle h | skip) <;> (try (exfalso; omega))) | refine TreeW_intro (by rfl) ?_ | refine Two_intro ?_ ?_ | exact leK_lit (by simp [LeL, lk, *]) | (show (_ : Nat) ≤ _; omega)) <;> (try simp (disch := omega) only [*, ↓Ed, Eu, ↓reduceIte, reduceCtorEq, Nat.reduceAdd, Nat.reduceEqDiff, Nat.reduceLT, Nat.reduceLeDiff, Int.reduceToNat, Int.reduceEq, Int.reduceLT, Int.reduceLE, w64, List.length_append, List.length_map, Nat.mul_one, Act.cs, gdA, u10]))
        all_goals (try (exfalso; simp only [Fact, Bool.not_eq_true', Bool.not_eq_false', decide_eq_true_eq, decide_eq_false_iff_not] at *; omega))
end Go.Proofs.YtfkkjhnbbimcaaaDoor

/- chapter 32: what the laws begin with: the example, few acts, lists of acts held against each other -/
namespace Go.Proofs.YtfkkjhnbbimcaaaDoor
set_option linter.all false
open Go.RowKit
set_option maxRecDepth 100000
def lightB (l : List Act) (n : Int) : Bool := decide ((l.length : Int) ≤ n) && l.all fun x => decide (x.d.length ≤ 4000)
theorem light_all {l : List Act} : (l.all fun x => decide (x.d.length ≤ 4000)) = true ↔ ∀ j, j < l.length → (l.getD j default).d.length ≤ 4000 := by
  rw [List.all_eq_true]
  constructor
  · intro h j hj
    rw [List.getD, List.getElem?_eq_getElem hj]
    simpa using h _ (List.getElem_mem hj)
  · intro h x hx
    obtain ⟨j, hj, rfl⟩ := List.getElem_of_mem hx
    have := h j hj
    rw [List.getD, List.getElem?_eq_getElem hj] at this
    simpa using this
theorem light_mem {l : List Act} {n : Int} (h : lightB l n = true) : (l.length : Int) ≤ n ∧ ∀ x ∈ l, x.d.length ≤ 4000 := by
  simp only [lightB, Bool.and_eq_true, decide_eq_true_eq, List.all_eq_true] at h
  exact h
theorem p_Light (own : Option Nat) (l : List Act) (n : Int) (hl : l.length ≤ maxLen) : CP Tryd.prog 14 [.sl own 6 (acts l), .int .i64 n] (.bool (lightB l n)) := by
  have hm : maxLen = 9223372036854775807 := rfl
  refine ok_ligkeep_LightActs _ _ (by simp) ?_
  simp only [c_ligkeep_LightActs, ↓Ed, Eu, ↓reduceIte, reduceCtorEq, Nat.reduceAdd, Nat.reduceEqDiff, Nat.reduceLT, Nat.reduceLeDiff, Int.reduceToNat, Int.reduceEq, Int.reduceLT, Int.reduceLE, w64, List.length_append, List.length_map, Nat.mul_one, Act.cs, gdA, eqA, beq_self_eq_true]
  repeat' ((first | refine NewB_intro0 (fun b => ?_) | (refine NewB_intro (fun b hb => ?_); simp only [ln_cons2, ln_nil, and_true] at hb) | (with_reducible apply And.intro; (focus (first | omega | (simp only [Fact, Bool.not_eq_true', Bool.not_eq_false', decide_eq_true_eq, decide_eq_false_iff_not] at *; omega)))) | ((first | refine gW_sp ?_ | refine condW_sp ?_ | refine pickW_sp ?_); (try refine Sp_n ?_); (first | refine Sp_t (by assumption) ?_ | refine Sp_f (by assumption) ?_ | refine Sp_split (fun h => ?_) (fun h => ?_)) <;> (first | have h' := Fact_lt h | have h' := Fact_nlt h | have h' := Fact_le h | have h' := Fact_nle h | skip) <;> (try (exfalso; omega))) | refine TreeW_intro (by rfl) ?_ | refine Two_intro ?_ ?_ | exact leK_lit (by simp [LeL, lk, *]) | (show (_ : Nat) ≤ _; omega)) <;> (try simp (disch := omega) only [*, ↓Ed, Eu, ↓reduceIte, reduceCtorEq, Nat.reduceAdd, Nat.reduceEqDiff, Nat.reduceLT, Nat.reduceLeDiff, Int.reduceToNat, Int.reduceEq, Int.reduceLT, Int.reduceLE, w64, List.length_append, List.length_map, Nat.mul_one, Act.cs, gdA, eqA, beq_self_eq_true]))
  · simp only [Fact, Bool.not_eq_true', Bool.not_eq_false', decide_eq_true_eq, decide_eq_false_iff_not] at h
    simp [lightB, show ¬ (l.length : Int) ≤ n by omega]
  have hn : (l.length : Int) ≤ n := by simp only [Fact, Bool.not_eq_true', Bool.not_eq_false', decide_eq_true_eq, decide_eq_false_iff_not] at h; omega
  refine wpx_loop (fun k : Nat => ⟨lk [(0, .sl none 6 (acts l)), (5, .int .i64 (k : Int))], lk []⟩) (fun k => k ≤ l.length ∧ Fact (∀ j, j < k → (l.getD j default).d.length ≤ 4000)) (fun k => l.length - k) 0 ⟨by omega, fun j hj => by omega⟩ (Le_lit (by simp [LeL, lk])) ?_
  rintro k ⟨h1, h2⟩
  simp (disch := omega) only [↓Ed, Eu, ↓reduceIte, reduceCtorEq, Nat.reduceAdd, Nat.reduceEqDiff, Nat.reduceLT, Nat.reduceLeDiff, Int.reduceToNat, Int.reduceEq, Int.reduceLT, Int.reduceLE, w64, List.length_append, List.length_map, Nat.mul_one, Act.cs, gdA, eqA, beq_self_eq_true]
  repeat' ((first | refine NewB_intro0 (fun b => ?_) | (refine NewB_intro (fun b hb => ?_); simp only [ln_cons2, ln_nil, and_true] at hb) | (with_reducible apply And.intro; (focus (first | omega | (simp only [Fact, Bool.not_eq_true', Bool.not_eq_false', decide_eq_true_eq, decide_eq_false_iff_not] at *; omega)))) | ((first | refine gW_sp ?_ | refine condW_sp ?_ | refine pickW_sp ?_); (try refine Sp_n ?_); (first | refine Sp_t (by assumption) ?_ | refine Sp_f (by assumption) ?_ | refine Sp_split (fun h => ?_) (fun h => ?_)) <;> (first | have h' := Fact_lt h | have h' := Fact_nlt h | have h' := Fact_le h | have h' := Fact_nle h | skip) <;> (try (exfalso; omega))) | refine TreeW_intro (by rfl) ?_ | refine Two_intro ?_ ?_ | exact leK_lit (by simp [LeL, lk, *]) | (show (_ : Nat) ≤ _; omega)) <;> (try simp (disch := omega) only [*, ↓Ed, Eu, ↓reduceIte, reduceCtorEq, Nat.reduceAdd, Nat.reduceEqDiff, Nat.reduceLT, Nat.reduceLeDiff, Int.reduceToNat, Int.reduceEq, Int.reduceLT, Int.reduceLE, w64, List.length_append, List.length_map, Nat.mul_one, Act.cs, gdA, eqA, beq_self_eq_true]))
  all_goals simp only [Fact, Bool.not_eq_true', Bool.not_eq_false', decide_eq_true_eq, decide_eq_false_iff_not] at *
  · have : (l.all fun x => decide (x.d.length ≤ 4000)) = false := Bool.eq_false_iff.2 fun g => by
      have := light_all.1 g k (by omega); omega
    simp [lightB, this]
  · exact Round_lit (k + 1) ⟨Le_lit (by simp [LeL, lk]), ⟨by omega, fun j hj => by
      by_cases e : j = k
      · subst e; omega
      · exact h2 j (by omega)⟩, by omega⟩
  · have : (l.all fun x => decide (x.d.length ≤ 4000)) = true := light_all.2 fun j hj => h2 j (by omega)
    simp [lightB, this, hn]
theorem acts_eq {a b : List Act} (hl : a.length = b.length) (h : ∀ j, j < a.length → a.getD j default = b.getD j default) : a = b := by
  apply List.ext_getElem hl
  intro j h1 h2
  have := h j h1
  simpa [List.getD, List.getElem?_eq_getElem h1, List.getElem?_eq_getElem h2] using this
theorem p_acts (o1 o2 : Option Nat) (a b : List Act) (hl : a.length ≤ 10000000) (hl2 : b.length ≤ 10000000) : CP Tryd.prog 19 [.sl o1 6 (acts a), .sl o2 6 (acts b)] (.bool (decide (a = b))) := by
  have hm : maxLen = 9223372036854775807 := rfl
  refine ok_liglaw32_acts _ _ (by simp) ?_
  simp only [c_liglaw32_acts, ↓Ed, Eu, ↓reduceIte, reduceCtorEq, Nat.reduceAdd, Nat.reduceEqDiff, Nat.reduceLT, Nat.reduceLeDiff, Int.reduceToNat, Int.reduceEq, Int.reduceLT, Int.reduceLE, w64, List.length_append, List.length_map, Nat.mul_one, Act.cs, gdA, eqA, beq_self_eq_true]
  repeat' ((first | refine NewB_intro0 (fun b => ?_) | (refine NewB_intro (fun b hb => ?_); simp only [ln_cons2, ln_nil, and_true] at hb) | (with_reducible apply And.intro; (focus (first | omega | (simp only [Fact, Bool.not_eq_true', Bool.not_eq_false', decide_eq_true_eq, decide_eq_false_iff_not] at *; omega)))) | ((first | refine gW_sp ?_ | refine condW_sp ?_ | refine pickW_sp ?_); (try refine Sp_n ?_); (first | refine Sp_t (by assumption) ?_ | refine Sp_f (by assumption) ?_ | refine Sp_split (fun h => ?_) (fun h => ?_)) <;> (first | have h' := Fact_lt h | have h' := Fact_nlt h | have h' := Fact_le h | have h' := Fact_nle h | skip) <;> (try (exfalso; omega))) | refine TreeW_intro (by rfl) ?_ | refine Two_intro ?_ ?_ | exact leK_lit (by simp [LeL, lk, *]) | (show (_ : Nat) ≤ _; omega)) <;> (try simp (disch := omega) only [*, ↓Ed, Eu, ↓reduceIte, reduceCtorEq, Nat.reduceAdd, Nat.reduceEqDiff, Nat.reduceLT, Nat.reduceLeDiff, Int.reduceToNat, Int.reduceEq, Int.reduceLT, Int.reduceLE, w64, List.length_append, List.length_map, Nat.mul_one, Act.cs, gdA, eqA, beq_self_eq_true]))
  rotate_left
  · simp only [Fact, Bool.not_eq_true', Bool.not_eq_false', decide_eq_true_eq, decide_eq_false_iff_not] at h
    exact (decide_eq_false fun e => h (by rw [e])).symm
  have hn : a.length = b.length := by simp only [Fact, Bool.not_eq_true', Bool.not_eq_false', decide_eq_true_eq, decide_eq_false_iff_not] at h; omega
  refine wpx_loop (fun k : Nat => ⟨lk [(0, .sl none 6 (acts a)), (1, .sl none 6 (acts b)), (5, .int .i64 (k : Int))], lk []⟩) (fun k => k ≤ a.length ∧ Fact (∀ j, j < k → a.getD j default = b.getD j default)) (fun k => a.length - k) 0 ⟨by omega, fun j hj => by omega⟩ (Le_lit (by simp [LeL, lk])) ?_
  rintro k ⟨h1, h2⟩
  simp (disch := omega) only [↓Ed, Eu, ↓reduceIte, reduceCtorEq, Nat.reduceAdd, Nat.reduceEqDiff, Nat.reduceLT, Nat.reduceLeDiff, Int.reduceToNat, Int.reduceEq, Int.reduceLT, Int.reduceLE, w64, List.length_append, List.length_map, Nat.mul_one, Act.cs, gdA, eqA, beq_self_eq_true]
  repeat' ((first | refine NewB_intro0 (fun b => ?_) | (refine NewB_intro (fun b hb => ?_); simp only [ln_cons2, ln_nil, and_true] at hb) | (with_reducible apply And.intro; (focus (first | omega | (simp only [Fact, Bool.not_eq_true', Bool.not_eq_false', decide_eq_true_eq, decide_eq_false_iff_not] at *; omega)))) | ((first | refine gW_sp ?_ | refine condW_sp ?_ | refine pickW_sp ?_); (try refine Sp_n ?_); (first | refine Sp_t (by assumption) ?_ | refine Sp_f (by assumption) ?_ | refine Sp_split (fun h => ?_) (fun h => ?_)) <;> (first | have h' := Fact_lt h | have h' := Fact_nlt h | have h' := Fact_le h | have h' := Fact_nle h | skip) <;> (try (exfalso; omega))) | refine TreeW_intro (by rfl) ?_ | refine Two_intro ?_ ?_ | exact leK_lit (by simp [LeL, lk, *]) | (show (_ : Nat) ≤ _; omega)) <;> (try simp (disch := omega) only [*, ↓Ed, Eu, ↓reduceIte, reduceCtorEq, Nat.reduceAdd, Nat.reduceEqDiff, Nat.reduceLT, Nat.reduceLeDiff, Int.reduceToNat, Int.reduceEq, Int.reduceLT, Int.reduceLE, w64, List.length_append, List.length_map, Nat.mul_one, Act.cs, gdA, eqA, beq_self_eq_true]))
  all_goals simp only [Fact, Bool.not_eq_true', Bool.not_eq_false', decide_eq_true_eq, decide_eq_false_iff_not] at *
  · exact Round_lit (k + 1) ⟨Le_lit (by simp [LeL, lk]), ⟨by omega, fun j hj => by
      by_cases e : j = k
      · subst e; assumption
      · exact h2 j (by omega)⟩, by omega⟩
  · exact (decide_eq_false fun e => by rw [e] at h; exact h rfl).symm
  · exact (decide_eq_true (acts_eq hn fun j hj => h2 j (by omega))).symm
end Go.Proofs.YtfkkjhnbbimcaaaDoor

/- chapter 32: what the laws begin with: the example; PlayTells -/
namespace Go.Proofs.YtfkkjhnbbimcaaaDoor
set_option linter.all false
open Go.RowKit
set_option maxRecDepth 100000
theorem it0 : Lib.itoa 0 = [48] := by rw [itoa_dig (by omega), show (0 : Int).toNat = 0 from rfl, dig_lo (by omega)]; rfl
theorem it7 : Lib.itoa 7 = [55] := by rw [itoa_dig (by omega), show (7 : Int).toNat = 7 from rfl, dig_lo (by omega)]; rfl
theorem p_Show0 (a b c d e f : Nat) : CP Tryd.prog 35 [.agg [.int .i64 0, .int .i64 0, .int .i64 0, .int .i64 0, .nils a 2, .nils b 5, .nils c 5, .nils d 6, .nils e 2, .nils f 2, .int .i64 0]] (.str [48]) := by
  refine ok_play_Show _ _ (by simp) ?_
  have hi := p_Itoa 0 (by omega)
  rw [it0] at hi
  have hj := p_Join none 32 [[48]] (by simp) (by rw [Lib.join_one]; simp)
  rw [Lib.join_one] at hj
  simp only [c_play_Show, ↓Ed, Eu, ↓reduceIte, reduceCtorEq, Nat.reduceAdd, Nat.reduceEqDiff, Nat.reduceLT, Nat.reduceLeDiff, Int.reduceToNat, Int.reduceEq, Int.reduceLT, Int.reduceLE, w64, List.length_append, List.length_map, Nat.mul_one, Act.cs, gdA, eqA, beq_self_eq_true, it7]
  repeat' ((first | refine CallO_pure (hi) ?_ | refine CallW_intro (hi) ?_ | refine CallO_pure (hj) ?_ | refine NewB_intro0 (fun b => ?_) | (refine NewB_intro (fun b hb => ?_); simp only [ln_cons2, ln_nil, and_true] at hb) | (with_reducible apply And.intro; (focus (first | omega | (simp only [Fact, Bool.not_eq_true', Bool.not_eq_false', decide_eq_true_eq, decide_eq_false_iff_not] at *; omega)))) | ((first | refine gW_sp ?_ | refine condW_sp ?_ | refine pickW_sp ?_); (try refine Sp_n ?_); (first | refine Sp_t (by assumption) ?_ | refine Sp_f (by assumption) ?_ | refine Sp_split (fun h => ?_) (fun h => ?_)) <;> (first | have h' := Fact_lt h | have h' := Fact_nlt h | have h' := Fact_le h | have h' := Fact_nle h | skip) <;> (try (exfalso; omega))) | refine TreeW_intro (by rfl) ?_ | refine Two_intro ?_ ?_ | exact leK_lit (by simp [LeL, lk, *]) | (show (_ : Nat) ≤ _; omega)) <;> (try simp (disch := omega) only [*, ↓Ed, Eu, ↓reduceIte, reduceCtorEq, Nat.reduceAdd, Nat.reduceEqDiff, Nat.reduceLT, Nat.reduceLeDiff, Int.reduceToNat, Int.reduceEq, Int.reduceLT, Int.reduceLE, w64, List.length_append, List.length_map, Nat.mul_one, Act.cs, gdA, eqA, beq_self_eq_true, it7]))
  rename Nat => g
  refine wpx_loop (fun _ : Nat => ⟨lk [(1, .ptr g 0), (3, .sl (some 9) 1 [[.str [48]]]), (30, .sl none 2 []), (31, .int .i64 0), (32, .int .i64 0)], lk [(g, [.int .i64 0, .int .i64 0, .int .i64 0, .int .i64 0, .nils a 2, .nils b 5, .nils c 5, .nils d 6, .nils e 2, .nils f 2, .int .i64 0])]⟩) (fun _ => True) (fun _ => 0) 0 trivial (Le_lit (by simp [LeL, lk])) ?_
  rintro k -
  simp (disch := omega) only [↓Ed, Eu, ↓reduceIte, reduceCtorEq, Nat.reduceAdd, Nat.reduceEqDiff, Nat.reduceLT, Nat.reduceLeDiff, Int.reduceToNat, Int.reduceEq, Int.reduceLT, Int.reduceLE, w64, List.length_append, List.length_map, Nat.mul_one, Act.cs, gdA, eqA, beq_self_eq_true, it7]
  repeat' ((first | refine CallO_pure (hi) ?_ | refine CallW_intro (hi) ?_ | refine CallO_pure (hj) ?_ | refine NewB_intro0 (fun b => ?_) | (refine NewB_intro (fun b hb => ?_); simp only [ln_cons2, ln_nil, and_true] at hb) | (with_reducible apply And.intro; (focus (first | omega | (simp only [Fact, Bool.not_eq_true', Bool.not_eq_false', decide_eq_true_eq, decide_eq_false_iff_not] at *; omega)))) | ((first | refine gW_sp ?_ | refine condW_sp ?_ | refine pickW_sp ?_); (try refine Sp_n ?_); (first | refine Sp_t (by assumption) ?_ | refine Sp_f (by assumption) ?_ | refine Sp_split (fun h => ?_) (fun h => ?_)) <;> (first | have h' := Fact_lt h | have h' := Fact_nlt h | have h' := Fact_le h | have h' := Fact_nle h | skip) <;> (try (exfalso; omega))) | refine TreeW_intro (by rfl) ?_ | refine Two_intro ?_ ?_ | exact leK_lit (by simp [LeL, lk, *]) | (show (_ : Nat) ≤ _; omega)) <;> (try simp (disch := omega) only [*, ↓Ed, Eu, ↓reduceIte, reduceCtorEq, Nat.reduceAdd, Nat.reduceEqDiff, Nat.reduceLT, Nat.reduceLeDiff, Int.reduceToNat, Int.reduceEq, Int.reduceLT, Int.reduceLE, w64, List.length_append, List.length_map, Nat.mul_one, Act.cs, gdA, eqA, beq_self_eq_true, it7]))
theorem p_first : CP Tryd.prog 13 [] (.bool true) := by
  have hp := p_Print none [⟨2, 1, 0, 7, 0, []⟩] (by simp) (by simp)
  have e : printA [⟨2, 1, 0, 7, 0, []⟩] = ([116, 105, 99, 107, 32, 98, 32, 55, 10], 0) := by
    unfold printA
    rw [if_neg (by simp), if_pos (by decide)]
    simp [lineA, bodyA, wordsA, wd, sideW, it7, Lib.join_cons, Lib.joinTail]
  rw [e] at hp
  have hs := p_Show0
  refine ok_liglaw32_first _ _ (by simp) ?_
  simp only [c_liglaw32_first, ↓Ed, Eu, ↓reduceIte, reduceCtorEq, Nat.reduceAdd, Nat.reduceEqDiff, Nat.reduceLT, Nat.reduceLeDiff, Int.reduceToNat, Int.reduceEq, Int.reduceLT, Int.reduceLE, w64, List.length_append, List.length_map, Nat.mul_one, Act.cs, gdA, eqA, beq_self_eq_true, it7]
  repeat' ((first | refine CallO_pure (hp) ?_ | refine CallO_pure (hs _ _ _ _ _ _) ?_ | refine NewB_intro0 (fun b => ?_) | (refine NewB_intro (fun b hb => ?_); simp only [ln_cons2, ln_nil, and_true] at hb) | (with_reducible apply And.intro; (focus (first | omega | (simp only [Fact, Bool.not_eq_true', Bool.not_eq_false', decide_eq_true_eq, decide_eq_false_iff_not] at *; omega)))) | ((first | refine gW_sp ?_ | refine condW_sp ?_ | refine pickW_sp ?_); (try refine Sp_n ?_); (first | refine Sp_t (by assumption) ?_ | refine Sp_f (by assumption) ?_ | refine Sp_split (fun h => ?_) (fun h => ?_)) <;> (first | have h' := Fact_lt h | have h' := Fact_nlt h | have h' := Fact_le h | have h' := Fact_nle h | skip) <;> (try (exfalso; omega))) | refine TreeW_intro (by rfl) ?_ | refine Two_intro ?_ ?_ | exact leK_lit (by simp [LeL, lk, *]) | (show (_ : Nat) ≤ _; omega)) <;> (try simp (disch := omega) only [*, ↓Ed, Eu, ↓reduceIte, reduceCtorEq, Nat.reduceAdd, Nat.reduceEqDiff, Nat.reduceLT, Nat.reduceLeDiff, Int.reduceToNat, Int.reduceEq, Int.reduceLT, Int.reduceLE, w64, List.length_append, List.length_map, Nat.mul_one, Act.cs, gdA, eqA, beq_self_eq_true, it7]))
theorem parse_len (s : List UInt8) : (parseA s).1.length ≤ 10000000 := by
  by_cases h : (parseA s).2.2 = 0
  · obtain ⟨_, l, e, _, _, h5⟩ := parse_ok s.length [] s (parseA s).1 (parseA s).2.1 (by rw [← h]; rfl) (Nat.le_refl _) (by simp)
    exact Nat.le_trans h5 (by omega)
  · rw [show (parseA s).1 = [] from (parse_bad _ _ _ h).1]; simp
theorem print_len {l : List Act} (h : ∀ x ∈ l, x.d.length ≤ 10000) : (printA l).1.length ≤ 8040400 := by
  unfold printA
  split
  · simp
  · split
    · rename_i h1 h2
      have := fm_len h l.length (Nat.le_refl _) (fun j hj => all_may.1 h2 j hj)
      rw [List.take_length] at this
      simp only; omega
    · simp
theorem p_PlayTells (l : List Act) (s : List UInt8) (hl : l.length ≤ maxLen) (o : Option Nat) : CP Tryd.prog 4 [.sl o 6 (acts l), .str s] (.bool true) := by
  have hm : maxLen = 9223372036854775807 := rfl
  have hli := p_Light none l 401 hl
  refine ok_liglaw32_PlayTells _ _ (by simp) ?_
  cases hb : lightB l 401 with
  | false =>
    rw [hb] at hli
    simp only [c_liglaw32_PlayTells, ↓Ed, Eu, ↓reduceIte, reduceCtorEq, Nat.reduceAdd, Nat.reduceEqDiff, Nat.reduceLT, Nat.reduceLeDiff, Int.reduceToNat, Int.reduceEq, Int.reduceLT, Int.reduceLE, w64, List.length_append, List.length_map, Nat.mul_one, Act.cs, gdA, eqA, beq_self_eq_true, it7]
    repeat' ((first | refine CallO_pure (p_first) ?_ | refine CallO_pure (hli) ?_ | refine NewB_intro0 (fun b => ?_) | (refine NewB_intro (fun b hb => ?_); simp only [ln_cons2, ln_nil, and_true] at hb) | (with_reducible apply And.intro; (focus (first | omega | (simp only [Fact, Bool.not_eq_true', Bool.not_eq_false', decide_eq_true_eq, decide_eq_false_iff_not] at *; omega)))) | ((first | refine gW_sp ?_ | refine condW_sp ?_ | refine pickW_sp ?_); (try refine Sp_n ?_); (first | refine Sp_t (by assumption) ?_ | refine Sp_f (by assumption) ?_ | refine Sp_split (fun h => ?_) (fun h => ?_)) <;> (first | have h' := Fact_lt h | have h' := Fact_nlt h | have h' := Fact_le h | have h' := Fact_nle h | skip) <;> (try (exfalso; omega))) | refine TreeW_intro (by rfl) ?_ | refine Two_intro ?_ ?_ | exact leK_lit (by simp [LeL, lk, *]) | (show (_ : Nat) ≤ _; omega)) <;> (try simp (disch := omega) only [*, ↓Ed, Eu, ↓reduceIte, reduceCtorEq, Nat.reduceAdd, Nat.reduceEqDiff, Nat.reduceLT, Nat.reduceLeDiff, Int.reduceToNat, Int.reduceEq, Int.reduceLT, Int.reduceLE, w64, List.length_append, List.length_map, Nat.mul_one, Act.cs, gdA, eqA, beq_self_eq_true, it7]))
  | true =>
    rw [hb] at hli
    obtain ⟨g1, g2⟩ := light_mem hb
    have g3 : ∀ x ∈ l, x.d.length ≤ 10000 := fun x hx => Nat.le_trans (g2 x hx) (by omega)
    have h1 := p_Print none l (by omega) g3
    have h2 := p_rPrint none l (by omega) g3
    simp only [c_liglaw32_PlayTells, ↓Ed, Eu, ↓reduceIte, reduceCtorEq, Nat.reduceAdd, Nat.reduceEqDiff, Nat.reduceLT, Nat.reduceLeDiff, Int.reduceToNat, Int.reduceEq, Int.reduceLT, Int.reduceLE, w64, List.length_append, List.length_map, Nat.mul_one, Act.cs, gdA, eqA, beq_self_eq_true, it7]
    repeat' ((first | refine CallO_pure (p_first) ?_ | refine CallO_pure (hli) ?_ | refine CallO_pure (h1) ?_ | refine CallO_pure (h2) ?_ | refine CallO_pure (p_aParse s (by omega)) ?_ | refine CallO_pure (p_rParse s (by omega)) ?_ | refine CallO_pure (p_acts none none (parseA s).1 (parseA s).1 (parse_len s) (parse_len s)) ?_ | refine NewB_intro0 (fun b => ?_) | (refine NewB_intro (fun b hb => ?_); simp only [ln_cons2, ln_nil, and_true] at hb) | (with_reducible apply And.intro; (focus (first | omega | (simp only [Fact, Bool.not_eq_true', Bool.not_eq_false', decide_eq_true_eq, decide_eq_false_iff_not] at *; omega)))) | ((first | refine gW_sp ?_ | refine condW_sp ?_ | refine pickW_sp ?_); (try refine Sp_n ?_); (first | refine Sp_t (by assumption) ?_ | refine Sp_f (by assumption) ?_ | refine Sp_split (fun h => ?_) (fun h => ?_)) <;> (first | have h' := Fact_lt h | have h' := Fact_nlt h | have h' := Fact_le h | have h' := Fact_nle h | skip) <;> (try (exfalso; omega))) | refine TreeW_intro (by rfl) ?_ | refine Two_intro ?_ ?_ | exact leK_lit (by simp [LeL, lk, *]) | (show (_ : Nat) ≤ _; omega)) <;> (try simp (disch := omega) only [*, ↓Ed, Eu, ↓reduceIte, reduceCtorEq, Nat.reduceAdd, Nat.reduceEqDiff, Nat.reduceLT, Nat.reduceLeDiff, Int.reduceToNat, Int.reduceEq, Int.reduceLT, Int.reduceLE, w64, List.length_append, List.length_map, Nat.mul_one, Act.cs, gdA, eqA, beq_self_eq_true, it7]))
    refine wpx_loop (fun k : Nat => ⟨lk [(0, .sl none 6 (acts l)), (15, .int .i64 (k : Int))], lk []⟩) (fun k => k ≤ l.length) (fun k => l.length - k) 0 (by omega) (Le_lit (by simp [LeL, lk])) ?_
    intro k hk
    simp (disch := omega) only [↓Ed, Eu, ↓reduceIte, reduceCtorEq, Nat.reduceAdd, Nat.reduceEqDiff, Nat.reduceLT, Nat.reduceLeDiff, Int.reduceToNat, Int.reduceEq, Int.reduceLT, Int.reduceLE, w64, List.length_append, List.length_map, Nat.mul_one, Act.cs, gdA, eqA, beq_self_eq_true, it7]
    repeat' ((first | refine CallW_intro (p_aMay _) ?_ | refine CallW_intro (p_MayAct _) ?_ | refine NewB_intro0 (fun b => ?_) | (refine NewB_intro (fun b hb => ?_); simp only [ln_cons2, ln_nil, and_true] at hb) | (with_reducible apply And.intro; (focus (first | omega | (simp only [Fact, Bool.not_eq_true', Bool.not_eq_false', decide_eq_true_eq, decide_eq_false_iff_not] at *; omega)))) | ((first | refine gW_sp ?_ | refine condW_sp ?_ | refine pickW_sp ?_); (try refine Sp_n ?_); (first | refine Sp_t (by assumption) ?_ | refine Sp_f (by assumption) ?_ | refine Sp_split (fun h => ?_) (fun h => ?_)) <;> (first | have h' := Fact_lt h | have h' := Fact_nlt h | have h' := Fact_le h | have h' := Fact_nle h | skip) <;> (try (exfalso; omega))) | refine TreeW_intro (by rfl) ?_ | refine Two_intro ?_ ?_ | exact leK_lit (by simp [LeL, lk, *]) | (show (_ : Nat) ≤ _; omega)) <;> (try simp (disch := omega) only [*, ↓Ed, Eu, ↓reduceIte, reduceCtorEq, Nat.reduceAdd, Nat.reduceEqDiff, Nat.reduceLT, Nat.reduceLeDiff, Int.reduceToNat, Int.reduceEq, Int.reduceLT, Int.reduceLE, w64, List.length_append, List.length_map, Nat.mul_one, Act.cs, gdA, eqA, beq_self_eq_true, it7]))
    exact Round_lit (k + 1) ⟨Le_lit (by simp [LeL, lk]), by omega, by omega⟩
end Go.Proofs.YtfkkjhnbbimcaaaDoor
