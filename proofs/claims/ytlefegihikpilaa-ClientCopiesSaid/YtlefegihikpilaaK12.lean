import Derived.Test.YtlefegihikpilaaK9
import Derived.Test.YtlefegihikpilaaK11
/- client.among: is a header one of some? -/
namespace Go.Proofs.Ytlefegihikpilaa
set_option linter.all false
open Go.RowKit
set_option maxRecDepth 100000
set_option maxHeartbeats 4000000 in
theorem p_among (h : HdC) (l : List HdC) (g : AV) (hg : g.alias = .sl none 34 (hds l)) (hl : l.length ≤ 1000) : CP Try.prog 45 [.agg h.cs, g] (.bool (decide (h ∈ l))) := by
  refine ok_client_among _ _ (by simp) ?_
  simp only [c_client_among, hg, ↓Ed, Eu, ↓reduceIte, reduceCtorEq, Nat.reduceAdd, Nat.reduceEqDiff, Nat.reduceLT, Nat.reduceLeDiff, Int.reduceToNat, Int.reduceEq, Int.reduceLT, Int.reduceLE, w64, List.length_append, List.length_map, Nat.mul_one, beq_self_eq_true, HdC.cs, gdH, hds_len, rt_len, rt_take, rt_so, rt_sp2, zeros_rt, eqC_rt, hd_dec, Int.reduceAdd]
  repeat' ((first | refine NewB_intro0 (fun b => ?_) | (refine NewB_intro (fun b hb => ?_); simp only [ln_cons2, ln_nil, and_true] at hb) | (with_reducible apply And.intro; (focus (first | omega | (simp only [Fact, Bool.not_eq_true', Bool.not_eq_false', decide_eq_true_eq, decide_eq_false_iff_not] at *; omega)))) | ((first | refine gW_sp ?_ | refine condW_sp ?_ | refine pickW_sp ?_); (try refine Sp_n ?_); (first | refine Sp_t (by assumption) ?_ | refine Sp_f (by assumption) ?_ | refine Sp_split (fun h => ?_) (fun h => ?_)) <;> (first | have h' := Fact_lt h | have h' := Fact_nlt h | have h' := Fact_le h | have h' := Fact_nle h | skip) <;> (try (exfalso; omega))) | refine TreeW_intro (by rfl) ?_ | refine TreeW_all ?_ | refine upQ_intro ?_ | refine Two_intro ?_ ?_ | (refine leK_lit ?_; (simp [-List.getD_eq_getElem?_getD, LeL, lk, *]; done)) | (refine leK_dd ?_; (simp [-List.getD_eq_getElem?_getD, LeS, LeL, lk, *]; done)) | (simp only [Fact, Bool.not_eq_true', Bool.not_eq_false', decide_eq_true_eq, decide_eq_false_iff_not] at *; refine leK_dd ?_; (simp [-List.getD_eq_getElem?_getD, LeS, LeL, lk, *]; done)) | (show (_ : Nat) ≤ _; omega)) <;> (try simp (disch := omega) only [*, ↓Ed, Eu, ↓reduceIte, reduceCtorEq, Nat.reduceAdd, Nat.reduceEqDiff, Nat.reduceLT, Nat.reduceLeDiff, Int.reduceToNat, Int.reduceEq, Int.reduceLT, Int.reduceLE, w64, List.length_append, List.length_map, Nat.mul_one, beq_self_eq_true, HdC.cs, gdH, hds_len, rt_len, rt_take, rt_so, rt_sp2, zeros_rt, eqC_rt, hd_dec, Int.reduceAdd]))
  rename_i m
  have hb0 := hb
  refine wpx_loop (fun x : Nat × List HdC × List Int => ⟨lk [(2, .ptr m 0), (5, .mapv b), (9, .sl none 34 (hds l)), (10, .int .i64 l.length), (11, .int .i64 (x.1 : Int))], lk [(b, [.mp (x.2.1.map hdK) (x.2.2.map (AV.int .i64 ·)) (List.range x.2.1.length) x.2.1.length]), (m, h.cs)]⟩)
    (fun x => x.1 ≤ l.length ∧ x.2.2.length = x.2.1.length ∧ (∀ y, y ∈ x.2.1 ↔ y ∈ l.take x.1) ∧ ∀ i, i < x.2.2.length → 1 ≤ x.2.2.getD i 0 ∧ x.2.2.getD i 0 ≤ x.1) (fun x => l.length - x.1) (0, [], []) ⟨by simp, rfl, by simp, by simp⟩ (Le_lit (by simp [LeL, lk, hb])) ?_
  rintro ⟨k, d, cn⟩ ⟨g1, g2, g3, g4⟩
  simp only at g1 g2 g3 g4
  by_cases hk : k < l.length
  · have f5 : Fact (decide ((k : Int) < l.length) = true) := by simp only [Fact, Bool.not_eq_true', Bool.not_eq_false', decide_eq_true_eq, decide_eq_false_iff_not]; omega
    have hx : l[k]? = some (l.getD k default) := by simp [List.getD, hk]
    have hmem : ∀ y, y ∈ l.take (k + 1) ↔ y ∈ l.take k ∨ y = l.getD k default := by
      intro y; rw [List.take_add_one, hx, List.mem_append]; simp
    by_cases hin : (l.getD k default) ∈ d
    · obtain ⟨i, hi, hil⟩ := idx_ex hin
      have hf : findM K34 true (.agg (l.getD k default).cs) (d.map hdK) = some (some i) := by
        have := findM_map K34 true hdK hdK_eq (l.getD k default) d
        rw [hi] at this; exact this
      have hv := ints_get cn i (by omega)
      have hB := findB_in d.length i hil
      have hr := range_getD d.length i hil
      have hc := g4 i (by omega)
      have hn : ∀ j, j < (cn.set i (cn.getD i 0 + 1)).length → 1 ≤ (cn.set i (cn.getD i 0 + 1)).getD j 0 ∧ (cn.set i (cn.getD i 0 + 1)).getD j 0 ≤ ((k + 1 : Nat) : Int) := by
        intro j hj
        rw [List.length_set] at hj
        have := g4 j hj
        by_cases e : i = j
        · subst e; simp [List.getD, hj] at this ⊢; omega
        · simp [List.getD, hj, List.getElem_set, e] at this ⊢; omega
      have hN : (cn.set i (cn.getD i 0 + 1)).length = d.length ∧ (∀ y, y ∈ d ↔ y ∈ l.take (k + 1)) ∧ ∀ j, j < (cn.set i (cn.getD i 0 + 1)).length → 1 ≤ (cn.set i (cn.getD i 0 + 1)).getD j 0 ∧ (cn.set i (cn.getD i 0 + 1)).getD j 0 ≤ ((k + 1 : Nat) : Int) := by
        refine ⟨by simp [g2], fun y => ?_, hn⟩
        rw [hmem, g3]
        constructor
        · exact .inl
        · rintro (h1 | rfl)
          · exact h1
          · exact (g3 _).1 hin
      clear hn hmem hx hi g3 g4
      generalize hw : cn.getD i 0 = c at *
      obtain ⟨hN1, hN2, hN3⟩ := hN
      simp (disch := omega) only [hf, hv, hB, hr, ints_set, ↓Ed, Eu, ↓reduceIte, reduceCtorEq, Nat.reduceAdd, Nat.reduceEqDiff, Nat.reduceLT, Nat.reduceLeDiff, Int.reduceToNat, Int.reduceEq, Int.reduceLT, Int.reduceLE, w64, List.length_append, List.length_map, Nat.mul_one, beq_self_eq_true, HdC.cs, gdH, hds_len, rt_len, rt_take, rt_so, rt_sp2, zeros_rt, eqC_rt, hd_dec, Int.reduceAdd]
      repeat' ((first | refine NewB_intro0 (fun b => ?_) | (refine NewB_intro (fun b hb => ?_); simp only [ln_cons2, ln_nil, and_true] at hb) | (with_reducible apply And.intro; (focus (first | omega | (simp only [Fact, Bool.not_eq_true', Bool.not_eq_false', decide_eq_true_eq, decide_eq_false_iff_not] at *; omega)))) | ((first | refine gW_sp ?_ | refine condW_sp ?_ | refine pickW_sp ?_); (try refine Sp_n ?_); (first | refine Sp_t (by assumption) ?_ | refine Sp_f (by assumption) ?_ | refine Sp_split (fun h => ?_) (fun h => ?_)) <;> (first | have h' := Fact_lt h | have h' := Fact_nlt h | have h' := Fact_le h | have h' := Fact_nle h | skip) <;> (try (exfalso; omega))) | refine TreeW_intro (by rfl) ?_ | refine TreeW_all ?_ | refine upQ_intro ?_ | refine Two_intro ?_ ?_ | (refine leK_lit ?_; (simp [-List.getD_eq_getElem?_getD, LeL, lk, *]; done)) | (refine leK_dd ?_; (simp [-List.getD_eq_getElem?_getD, LeS, LeL, lk, *]; done)) | (simp only [Fact, Bool.not_eq_true', Bool.not_eq_false', decide_eq_true_eq, decide_eq_false_iff_not] at *; refine leK_dd ?_; (simp [-List.getD_eq_getElem?_getD, LeS, LeL, lk, *]; done)) | (show (_ : Nat) ≤ _; omega)) <;> (try simp (disch := omega) only [*, ↓Ed, Eu, ↓reduceIte, reduceCtorEq, Nat.reduceAdd, Nat.reduceEqDiff, Nat.reduceLT, Nat.reduceLeDiff, Int.reduceToNat, Int.reduceEq, Int.reduceLT, Int.reduceLE, w64, List.length_append, List.length_map, Nat.mul_one, beq_self_eq_true, HdC.cs, gdH, hds_len, rt_len, rt_take, rt_so, rt_sp2, zeros_rt, eqC_rt, hd_dec, Int.reduceAdd]))
      exact Round_lit (k + 1, d, cn.set i (c + 1)) ⟨Le_lit (by simp [LeL, lk, hb, hb0]), ⟨by simp only; omega, hN1, hN2, hN3⟩, by simp only; omega⟩
    · have hf : findM K34 true (.agg (l.getD k default).cs) (d.map hdK) = some none := findM_no K34 true hdK hdK_eq _ _ hin
      have hf2 : findM K34 true (.agg (l.getD k default).cs) (d.map hdK ++ [.agg (l.getD k default).cs]) = some (some d.length) := findM_snoc K34 true hdK hdK_eq _ _ hin
      have hv : (cn.map (AV.int .i64 ·) ++ [AV.int .i64 0]).getD d.length .undef = AV.int .i64 0 := snoc_get _ _ _ _ (by simp [g2])
      have hs : (cn.map (AV.int .i64 ·) ++ [AV.int .i64 0]).set d.length (.int .i64 1) = (cn ++ [1]).map (AV.int .i64 ·) := by rw [snoc_set _ _ _ _ (by simp [g2])]; simp
      have hB := findB_range d.length 0
      have hN : (cn ++ [1]).length = (d ++ [l.getD k default]).length ∧ (∀ y, y ∈ d ++ [l.getD k default] ↔ y ∈ l.take (k + 1)) ∧ ∀ j, j < (cn ++ [1]).length → 1 ≤ (cn ++ [1]).getD j 0 ∧ (cn ++ [1]).getD j 0 ≤ ((k + 1 : Nat) : Int) := by
        refine ⟨by simp [g2], fun y => ?_, fun j hj => ?_⟩
        · rw [hmem, List.mem_append, g3, List.mem_singleton]
        · by_cases e : j < cn.length
          · have := g4 j e
            simp [List.getD, List.getElem?_append_left e, e] at this ⊢; omega
          · have : j = cn.length := by simp at hj; omega
            subst this; simp [List.getD]; omega
      obtain ⟨hN1, hN2, hN3⟩ := hN
      clear hmem hx g3 g4
      simp (disch := omega) only [hf, hf2, hv, hs, hB, ↓Ed, Eu, ↓reduceIte, reduceCtorEq, Nat.reduceAdd, Nat.reduceEqDiff, Nat.reduceLT, Nat.reduceLeDiff, Int.reduceToNat, Int.reduceEq, Int.reduceLT, Int.reduceLE, w64, List.length_append, List.length_map, Nat.mul_one, beq_self_eq_true, HdC.cs, gdH, hds_len, rt_len, rt_take, rt_so, rt_sp2, zeros_rt, eqC_rt, hd_dec, Int.reduceAdd]
      repeat' ((first | refine NewB_intro0 (fun b => ?_) | (refine NewB_intro (fun b hb => ?_); simp only [ln_cons2, ln_nil, and_true] at hb) | (with_reducible apply And.intro; (focus (first | omega | (simp only [Fact, Bool.not_eq_true', Bool.not_eq_false', decide_eq_true_eq, decide_eq_false_iff_not] at *; omega)))) | ((first | refine gW_sp ?_ | refine condW_sp ?_ | refine pickW_sp ?_); (try refine Sp_n ?_); (first | refine Sp_t (by assumption) ?_ | refine Sp_f (by assumption) ?_ | refine Sp_split (fun h => ?_) (fun h => ?_)) <;> (first | have h' := Fact_lt h | have h' := Fact_nlt h | have h' := Fact_le h | have h' := Fact_nle h | skip) <;> (try (exfalso; omega))) | refine TreeW_intro (by rfl) ?_ | refine TreeW_all ?_ | refine upQ_intro ?_ | refine Two_intro ?_ ?_ | (refine leK_lit ?_; (simp [-List.getD_eq_getElem?_getD, LeL, lk, *]; done)) | (refine leK_dd ?_; (simp [-List.getD_eq_getElem?_getD, LeS, LeL, lk, *]; done)) | (simp only [Fact, Bool.not_eq_true', Bool.not_eq_false', decide_eq_true_eq, decide_eq_false_iff_not] at *; refine leK_dd ?_; (simp [-List.getD_eq_getElem?_getD, LeS, LeL, lk, *]; done)) | (show (_ : Nat) ≤ _; omega)) <;> (try simp (disch := omega) only [*, ↓Ed, Eu, ↓reduceIte, reduceCtorEq, Nat.reduceAdd, Nat.reduceEqDiff, Nat.reduceLT, Nat.reduceLeDiff, Int.reduceToNat, Int.reduceEq, Int.reduceLT, Int.reduceLE, w64, List.length_append, List.length_map, Nat.mul_one, beq_self_eq_true, HdC.cs, gdH, hds_len, rt_len, rt_take, rt_so, rt_sp2, zeros_rt, eqC_rt, hd_dec, Int.reduceAdd]))
      exact Round_lit (k + 1, d ++ [l.getD k default], cn ++ [1]) ⟨Le_lit (by simp [LeL, lk, hdK, List.range_succ, hb, hb0]), ⟨by simp only; omega, hN1, hN2, hN3⟩, by simp only; omega⟩
  have f5 : Fact (decide ((k : Int) < l.length) = false) := by simp only [Fact, Bool.not_eq_true', Bool.not_eq_false', decide_eq_true_eq, decide_eq_false_iff_not]; omega
  have hd : ∀ y, y ∈ d ↔ y ∈ l := by intro y; rw [g3, List.take_of_length_le (by omega)]
  by_cases hin : h ∈ d
  · obtain ⟨i, hi, hil⟩ := idx_ex hin
    have hf : findM K34 true (.agg h.cs) (d.map hdK) = some (some i) := by
      have := findM_map K34 true hdK hdK_eq h d
      rw [hi] at this; exact this
    have hv := ints_get cn i (by omega)
    have hc := g4 i (by omega)
    have f6 : Fact (decide (0 < cn.getD i 0) = true) := by simp only [Fact, Bool.not_eq_true', Bool.not_eq_false', decide_eq_true_eq, decide_eq_false_iff_not]; omega
    rw [decide_eq_true ((hd h).1 hin)]
    clear hd hi g3 g4
    simp (disch := omega) only [hf, hv, ↓Ed, Eu, ↓reduceIte, reduceCtorEq, Nat.reduceAdd, Nat.reduceEqDiff, Nat.reduceLT, Nat.reduceLeDiff, Int.reduceToNat, Int.reduceEq, Int.reduceLT, Int.reduceLE, w64, List.length_append, List.length_map, Nat.mul_one, beq_self_eq_true, HdC.cs, gdH, hds_len, rt_len, rt_take, rt_so, rt_sp2, zeros_rt, eqC_rt, hd_dec, Int.reduceAdd]
    repeat' ((first | refine NewB_intro0 (fun b => ?_) | (refine NewB_intro (fun b hb => ?_); simp only [ln_cons2, ln_nil, and_true] at hb) | (with_reducible apply And.intro; (focus (first | omega | (simp only [Fact, Bool.not_eq_true', Bool.not_eq_false', decide_eq_true_eq, decide_eq_false_iff_not] at *; omega)))) | ((first | refine gW_sp ?_ | refine condW_sp ?_ | refine pickW_sp ?_); (try refine Sp_n ?_); (first | refine Sp_t (by assumption) ?_ | refine Sp_f (by assumption) ?_ | refine Sp_split (fun h => ?_) (fun h => ?_)) <;> (first | have h' := Fact_lt h | have h' := Fact_nlt h | have h' := Fact_le h | have h' := Fact_nle h | skip) <;> (try (exfalso; omega))) | refine TreeW_intro (by rfl) ?_ | refine TreeW_all ?_ | refine upQ_intro ?_ | refine Two_intro ?_ ?_ | (refine leK_lit ?_; (simp [-List.getD_eq_getElem?_getD, LeL, lk, *]; done)) | (refine leK_dd ?_; (simp [-List.getD_eq_getElem?_getD, LeS, LeL, lk, *]; done)) | (simp only [Fact, Bool.not_eq_true', Bool.not_eq_false', decide_eq_true_eq, decide_eq_false_iff_not] at *; refine leK_dd ?_; (simp [-List.getD_eq_getElem?_getD, LeS, LeL, lk, *]; done)) | (show (_ : Nat) ≤ _; omega)) <;> (try simp (disch := omega) only [*, ↓Ed, Eu, ↓reduceIte, reduceCtorEq, Nat.reduceAdd, Nat.reduceEqDiff, Nat.reduceLT, Nat.reduceLeDiff, Int.reduceToNat, Int.reduceEq, Int.reduceLT, Int.reduceLE, w64, List.length_append, List.length_map, Nat.mul_one, beq_self_eq_true, HdC.cs, gdH, hds_len, rt_len, rt_take, rt_so, rt_sp2, zeros_rt, eqC_rt, hd_dec, Int.reduceAdd]))
    exact f6
  · have hf : findM K34 true (.agg h.cs) (d.map hdK) = some none := findM_no K34 true hdK hdK_eq _ _ hin
    rw [decide_eq_false (fun e => hin ((hd h).2 e))]
    clear hd g3 g4
    simp (disch := omega) only [hf, ↓Ed, Eu, ↓reduceIte, reduceCtorEq, Nat.reduceAdd, Nat.reduceEqDiff, Nat.reduceLT, Nat.reduceLeDiff, Int.reduceToNat, Int.reduceEq, Int.reduceLT, Int.reduceLE, w64, List.length_append, List.length_map, Nat.mul_one, beq_self_eq_true, HdC.cs, gdH, hds_len, rt_len, rt_take, rt_so, rt_sp2, zeros_rt, eqC_rt, hd_dec, Int.reduceAdd]
    repeat' ((first | refine NewB_intro0 (fun b => ?_) | (refine NewB_intro (fun b hb => ?_); simp only [ln_cons2, ln_nil, and_true] at hb) | (with_reducible apply And.intro; (focus (first | omega | (simp only [Fact, Bool.not_eq_true', Bool.not_eq_false', decide_eq_true_eq, decide_eq_false_iff_not] at *; omega)))) | ((first | refine gW_sp ?_ | refine condW_sp ?_ | refine pickW_sp ?_); (try refine Sp_n ?_); (first | refine Sp_t (by assumption) ?_ | refine Sp_f (by assumption) ?_ | refine Sp_split (fun h => ?_) (fun h => ?_)) <;> (first | have h' := Fact_lt h | have h' := Fact_nlt h | have h' := Fact_le h | have h' := Fact_nle h | skip) <;> (try (exfalso; omega))) | refine TreeW_intro (by rfl) ?_ | refine TreeW_all ?_ | refine upQ_intro ?_ | refine Two_intro ?_ ?_ | (refine leK_lit ?_; (simp [-List.getD_eq_getElem?_getD, LeL, lk, *]; done)) | (refine leK_dd ?_; (simp [-List.getD_eq_getElem?_getD, LeS, LeL, lk, *]; done)) | (simp only [Fact, Bool.not_eq_true', Bool.not_eq_false', decide_eq_true_eq, decide_eq_false_iff_not] at *; refine leK_dd ?_; (simp [-List.getD_eq_getElem?_getD, LeS, LeL, lk, *]; done)) | (show (_ : Nat) ≤ _; omega)) <;> (try simp (disch := omega) only [*, ↓Ed, Eu, ↓reduceIte, reduceCtorEq, Nat.reduceAdd, Nat.reduceEqDiff, Nat.reduceLT, Nat.reduceLeDiff, Int.reduceToNat, Int.reduceEq, Int.reduceLT, Int.reduceLE, w64, List.length_append, List.length_map, Nat.mul_one, beq_self_eq_true, HdC.cs, gdH, hds_len, rt_len, rt_take, rt_so, rt_sp2, zeros_rt, eqC_rt, hd_dec, Int.reduceAdd]))
end Go.Proofs.Ytlefegihikpilaa

/- what a client knows: a list in the order of coming, and a list by rising heights -/
namespace Go.Proofs.Ytlefegihikpilaa
set_option linter.all false
/-- Of some headers, that of a height. -/
def stH (l : List HdC) (a : Int) : Option HdC := l.find? (fun x => decide (x.h = a))
/-- The document's place of a height. -/
def insH (h : HdC) : List HdC → List HdC
  | [] => [h]
  | x :: r => if x.h < h.h then x :: insH h r else h :: x :: r
def Asc (l : List HdC) : Prop := l.Pairwise fun x y => x.h < y.h
theorem stH_some {l : List HdC} {a : Int} {x : HdC} (h : stH l a = some x) : x ∈ l ∧ x.h = a := by
  unfold stH at h
  exact ⟨List.mem_of_find?_eq_some h, by simpa using List.find?_some h⟩
theorem stH_none {l : List HdC} {a : Int} (h : stH l a = none) : ∀ x ∈ l, x.h ≠ a := by
  unfold stH at h
  intro x hx e
  have := List.find?_eq_none.1 h x hx
  simp [e] at this
/-- Heights that differ. -/
def Apart (l : List HdC) : Prop := l.Pairwise fun x y => x.h ≠ y.h
theorem Apart.one {l : List HdC} (h : Apart l) {x y : HdC} (hx : x ∈ l) (hy : y ∈ l) (e : x.h = y.h) : x = y := by
  induction l with
  | nil => cases hx
  | cons z r ih =>
    obtain ⟨h1, h2⟩ := List.pairwise_cons.1 h
    rcases List.mem_cons.1 hx with hx' | hx' <;> rcases List.mem_cons.1 hy with hy' | hy'
    · rw [hx', hy']
    · subst hx'; exact absurd e (h1 _ hy')
    · subst hy'; exact absurd e.symm (h1 _ hx')
    · exact ih h2 hx' hy'
theorem Asc.apart {l : List HdC} (h : Asc l) : Apart l := List.Pairwise.imp (fun h => by omega) h
theorem stH_of {l : List HdC} (h : Apart l) {x : HdC} (hx : x ∈ l) : stH l x.h = some x := by
  cases hs : stH l x.h with
  | none => exact absurd rfl (stH_none hs x hx)
  | some y => rw [h.one hx (stH_some hs).1 (stH_some hs).2.symm]
theorem stH_perm {l m : List HdC} (hp : l.Perm m) (h : Apart m) (a : Int) : stH l a = stH m a := by
  cases hs : stH l a with
  | none =>
    cases hm : stH m a with
    | none => rfl
    | some y => exact absurd (stH_some hm).2 (stH_none hs y (hp.mem_iff.2 (stH_some hm).1))
  | some x =>
    obtain ⟨h1, rfl⟩ := stH_some hs
    exact (stH_of h (hp.mem_iff.1 h1)).symm
theorem insH_perm (h : HdC) : ∀ l : List HdC, (insH h l).Perm (h :: l)
  | [] => .refl _
  | x :: r => by
    unfold insH
    split
    · exact ((insH_perm h r).cons x).trans (.swap h x r)
    · exact .refl _
theorem insH_asc {h : HdC} : ∀ {l : List HdC}, Asc l → (∀ x ∈ l, x.h ≠ h.h) → Asc (insH h l)
  | [], _, _ => by simp [insH, Asc]
  | x :: r, ha, hn => by
    obtain ⟨h1, h2⟩ := List.pairwise_cons.1 ha
    unfold insH
    split
    · rename_i hlt
      refine List.pairwise_cons.2 ⟨fun y hy => ?_, insH_asc h2 fun y hy => hn y (by simp [hy])⟩
      rcases List.mem_cons.1 ((insH_perm h r).mem_iff.1 hy) with rfl | hy
      · exact hlt
      · exact h1 _ hy
    · have hx := hn x (by simp)
      refine List.pairwise_cons.2 ⟨fun y hy => ?_, ha⟩
      rcases List.mem_cons.1 hy with rfl | hy
      · omega
      · have := h1 _ hy; omega
/-- Two rising lists of the same are one. -/
theorem asc_unique : ∀ {l m : List HdC}, Asc l → Asc m → l.Perm m → l = m
  | [], m, _, _, hp => (List.nil_perm.1 hp).symm
  | x :: l, [], _, _, hp => by simpa using hp.length_eq
  | x :: l, y :: m, h1, h2, hp => by
    obtain ⟨a1, a2⟩ := List.pairwise_cons.1 h1
    obtain ⟨b1, b2⟩ := List.pairwise_cons.1 h2
    have e : x = y := by
      rcases List.mem_cons.1 (hp.mem_iff.1 (List.mem_cons_self ..)) with e | hx
      · exact e
      · rcases List.mem_cons.1 (hp.mem_iff.2 (List.mem_cons_self ..)) with e | hy
        · exact e.symm
        · have := a1 _ hy; have := b1 _ hx; omega
    subst e
    rw [asc_unique a2 b2 (List.Perm.cons_inv hp)]
/-- The rising list of what is known. -/
def srt (l : List HdC) : List HdC := l.foldr insH []
theorem srt_perm : ∀ l : List HdC, (srt l).Perm l
  | [] => .refl _
  | x :: r => (insH_perm x _).trans ((srt_perm r).cons x)
theorem srt_asc : ∀ {l : List HdC}, Apart l → Asc (srt l)
  | [], _ => List.Pairwise.nil
  | x :: r, h => by
    obtain ⟨h1, h2⟩ := List.pairwise_cons.1 h
    exact insH_asc (srt_asc h2) fun y hy => (h1 y ((srt_perm r).mem_iff.1 hy)).symm
theorem Apart.snoc {l : List HdC} {h : HdC} (ha : Apart l) (hn : ∀ x ∈ l, x.h ≠ h.h) : Apart (l ++ [h]) :=
  List.pairwise_append.2 ⟨ha, by simp, fun x hx y hy => by simp at hy; subst hy; exact hn x hx⟩
theorem srt_snoc {l : List HdC} {h : HdC} (ha : Apart l) (hn : ∀ x ∈ l, x.h ≠ h.h) : srt (l ++ [h]) = insH h (srt l) := by
  refine asc_unique (srt_asc (ha.snoc hn)) (insH_asc (srt_asc ha) fun x hx => hn x ((srt_perm l).mem_iff.1 hx)) ?_
  refine (srt_perm _).trans (.trans ?_ (insH_perm h _).symm)
  exact (List.perm_append_comm (l₁ := l) (l₂ := [h])).trans ((srt_perm l).symm.cons h)
theorem stH_srt {l : List HdC} (ha : Apart l) (a : Int) : stH (srt l) a = stH l a := stH_perm (srt_perm l) ha a
/-- The greatest height. -/
def maxH (l : List HdC) : Int := l.foldl (fun m x => if m < x.h then x.h else m) 0
end Go.Proofs.Ytlefegihikpilaa
