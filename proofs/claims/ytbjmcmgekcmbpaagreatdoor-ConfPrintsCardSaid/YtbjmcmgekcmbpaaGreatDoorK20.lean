import Derived.Test.YtbjmcmgekcmbpaaGreatDoorK18
import Derived.Test.YtbjmcmgekcmbpaaGreatDoorK14
import Derived.Test.YtbjmcmgekcmbpaaGreatDoorK12
import Derived.Test.YtbjmcmgekcmbpaaGreatDoorK13
import Derived.Lib.SplitLaws
/- chapter 21: the document's words, lines, numbers -/
namespace Go.Proofs.YtbjmcmgekcmbpaaGreatDoor
set_option linter.all false
open Go.RowKit
set_option maxRecDepth 100000
theorem nilq (s : List UInt8) : (s = ([] : List UInt8)) = (s.length = 0) := by simp [List.length_eq_zero_iff]
theorem drop_cons {s : List UInt8} {i : Nat} (h : i < s.length) : s.drop i = s.getD i 0 :: s.drop (i + 1) := by
  rw [List.drop_eq_getElem_cons h, List.getD, List.getElem?_eq_getElem h]; rfl
theorem nh_end {s : List UInt8} {i : Nat} (h : s.length ≤ i) : noHash (s.drop i) = [] := by rw [List.drop_of_length_le h]; rfl
theorem nh_hash {s : List UInt8} {i : Nat} (h : i < s.length) (hc : s.getD i 0 = 35) : noHash (s.drop i) = [] := by
  rw [drop_cons h, hc]; rfl
theorem nh_step {s : List UInt8} {i : Nat} (h : i < s.length) (hc : s.getD i 0 ≠ 35) : noHash (s.drop i) = s.getD i 0 :: noHash (s.drop (i + 1)) := by
  rw [drop_cons h]
  unfold noHash
  rw [List.takeWhile_cons, if_pos (by simpa using hc)]
theorem u8k {a : UInt8} (b : UInt8) {n : Nat} (hb : b.toNat = n) : ((a.toNat : Int) = (n : Int)) ↔ a = b := by
  rw [Int.ofNat_inj, ← hb, UInt8.toNat_inj]
theorem u35 {c : UInt8} : ((c.toNat : Int) = 35) ↔ c = 35 := u8k 35 rfl
theorem u32 {c : UInt8} : ((c.toNat : Int) = 32) ↔ c = 32 := u8k 32 rfl
theorem u9 {c : UInt8} : ((c.toNat : Int) = 9) ↔ c = 9 := u8k 9 rfl
theorem u10 {c : UInt8} : ((c.toNat : Int) = 10) ↔ c = 10 := u8k 10 rfl
theorem take1 {s : List UInt8} {i : Nat} (h : i < s.length) : (s.take (i + 1)).drop i = [s.getD i 0] := by
  rw [List.drop_take, drop_cons h]; simp
theorem w_end {s cur : List UInt8} {o R : List (List UInt8)} {i : Nat} (h : o ++ wgo cur (noHash (s.drop i)) = R) (hn : noHash (s.drop i) = []) : (cur.length = 0 → o = R) ∧ (cur.length ≠ 0 → o ++ [cur] = R) := by
  rw [hn, wgo] at h
  constructor
  · intro e
    rw [if_pos (List.length_eq_zero_iff.1 e)] at h
    simpa using h
  · intro e
    rw [if_neg (fun g => e (List.length_eq_zero_iff.2 g))] at h
    exact h
theorem w_blk {s cur : List UInt8} {o R : List (List UInt8)} {i : Nat} (h : o ++ wgo cur (noHash (s.drop i)) = R) (hi : i < s.length) (hc : s.getD i 0 ≠ 35) (hb : blk (s.getD i 0) = true) :
    (cur.length = 0 → o ++ wgo [] (noHash (s.drop (i + 1))) = R) ∧ (cur.length ≠ 0 → (o ++ [cur]) ++ wgo [] (noHash (s.drop (i + 1))) = R) := by
  rw [nh_step hi hc, wgo, if_pos hb] at h
  constructor
  · intro e
    rw [if_pos (List.length_eq_zero_iff.1 e)] at h
    exact h
  · intro e
    rw [if_neg (fun g => e (List.length_eq_zero_iff.2 g))] at h
    rw [← h]; simp
theorem w_chr {s cur : List UInt8} {o R : List (List UInt8)} {i : Nat} (h : o ++ wgo cur (noHash (s.drop i)) = R) (hi : i < s.length) (hc : s.getD i 0 ≠ 35) (hb : blk (s.getD i 0) = false) :
    o ++ wgo (cur ++ [s.getD i 0]) (noHash (s.drop (i + 1))) = R := by
  rw [nh_step hi hc, wgo, if_neg (by rw [hb]; decide)] at h
  exact h
theorem blk32 {c : UInt8} (h : c = 32) : blk c = true := by subst h; rfl
theorem blk9 {c : UInt8} (h : c = 9) : blk c = true := by subst h; rfl
theorem blk_no {c : UInt8} (h : c ≠ 32) (h' : c ≠ 9) : blk c = false := by simp [blk, h, h']
/-! lines -/
theorem spx_nl {s : List UInt8} {f i : Nat} (hf : f ≤ i) (hi : i < s.length) (hn : ∀ j, f ≤ j → j < i → s.getD j 0 ≠ 10) (hc : s.getD i 0 = 10) : spx 10 (s.drop f) = (s.take i).drop f :: spx 10 (s.drop (i + 1)) := by
  have e : s.drop f = (s.take i).drop f ++ 10 :: s.drop (i + 1) := by
    rw [← hc, ← drop_cons hi, List.drop_take]
    have : s.drop i = (s.drop f).drop (i - f) := by rw [List.drop_drop]; congr 1; omega
    rw [this, List.take_append_drop]
  rw [e, spx_cut]
  intro g
  obtain ⟨j, hj, e2⟩ := List.getElem_of_mem g
  rw [List.length_drop, List.length_take] at hj
  refine hn (f + j) (by omega) (by omega) ?_
  rw [← e2]
  simp [List.getD, List.getElem?_eq_getElem (show f + j < s.length by omega)]
theorem spx_tail {s : List UInt8} {f i : Nat} (hf : f ≤ i) (hi : s.length ≤ i) (hn : ∀ j, f ≤ j → j < i → s.getD j 0 ≠ 10) : spx 10 (s.drop f) = [s.drop f] := by
  refine spx_none ?_
  intro g
  obtain ⟨j, hj, e2⟩ := List.getElem_of_mem g
  rw [List.length_drop] at hj
  refine hn (f + j) (by omega) (by omega) ?_
  rw [← e2]
  simp [List.getD, List.getElem?_eq_getElem (show f + j < s.length by omega)]
/-! numbers -/
def okN (l : List (List UInt8)) : Bool := l.all fun w => decide ((numP w).2 = 0)
def numsR (l : List (List UInt8)) : List Int := l.map fun w => (numP w).1
abbrev intsC (l : List Int) : List (List AV) := l.map fun n => [AV.int .i64 n]
theorem okN_bad {l : List (List UInt8)} {k : Nat} (hk : k < l.length) (h : (numP (l.getD k [])).2 ≠ 0) : okN l = false := by
  unfold okN
  rw [List.all_eq_false]
  refine ⟨l.getD k [], ?_, by simpa using h⟩
  rw [List.getD, List.getElem?_eq_getElem hk]; exact List.getElem_mem hk
theorem okN_all {l : List (List UInt8)} (h : ∀ j, j < l.length → (numP (l.getD j [])).2 = 0) : okN l = true := by
  unfold okN
  rw [List.all_eq_true]
  intro x hx
  obtain ⟨j, hj, rfl⟩ := List.getElem_of_mem hx
  have := h j hj
  rw [List.getD, List.getElem?_eq_getElem hj] at this
  exact decide_eq_true this
theorem numsR_take {l : List (List UInt8)} {k : Nat} (hk : k < l.length) : numsR (l.take (k + 1)) = numsR (l.take k) ++ [(numP (l.getD k [])).1] := by
  unfold numsR
  rw [List.take_succ_eq_append_getElem hk, List.map_append]
  congr 1
  simp [List.getD, List.getElem?_eq_getElem hk]
end Go.Proofs.YtbjmcmgekcmbpaaGreatDoor

/- chapter 21: which configurations may be, the document's -/
namespace Go.Proofs.YtbjmcmgekcmbpaaGreatDoor
set_option linter.all false
open Go.RowKit
set_option maxRecDepth 100000
theorem apart_badk {x : PathC} {l : List PathC} {k j : Nat} (hj : j < k) (hk : k ≤ l.length) (hm : meets (l.getD j default) x = true) : apartP x (l.take k) = false := by
  refine apart_bad (l := l.take k) (k := j) (by simp; omega) ?_
  rw [show (l.take k).getD j default = l.getD j default from by simp [List.getD, List.getElem?_take, hj]]
  exact hm
set_option maxHeartbeats 8000000 in
theorem p_sMay (c : Conf) (p1 r1 : AV) (h1 : p1.alias = .sl none 5 (pths c.ps)) (h2 : r1.alias = .sl none 2 (rls c.rs)) (l1 : c.ps.length ≤ maxLen) (l2 : c.rs.length ≤ maxLen)
    (sa : c.a.length ≤ 1000000) (sb : c.b.length ≤ 1000000) (sp : ∀ i, (c.ps.getD i default).ap.length ≤ 1000000 ∧ (c.ps.getD i default).bp.length ≤ 1000000) (sr : ∀ i, (c.rs.getD i default).pt.length ≤ 1000000) :
    CP Tryz.prog 9 [.agg (cfX c p1 r1)] (.bool (confMay c)) := by
  have hm : maxLen = 9223372036854775807 := rfl
  refine ok_ligref20_MayConf _ _ (by simp) ?_
  have n1 := p_rName c.a (by omega)
  have n2 := p_rName c.b (by omega)
  have m1 := p_mayLimits c.la
  have m2 := p_mayLimits c.lb
  cases e1 : nameP c.a with
  | false =>
    rw [confMay_f fun g => by rw [g.1] at e1; cases e1]
    rw [e1] at n1
    clear e1
    simp only [c_ligref20_MayConf, ↓Ed, Eu, ↓reduceIte, reduceCtorEq, Nat.reduceAdd, Nat.reduceEqDiff, Nat.reduceLT, Nat.reduceLeDiff, Int.reduceToNat, Int.reduceEq, Int.reduceLT, Int.reduceLE, Int.toNat_natCast, al_so, al_al, al_pc, al_rc, al_pst, al_rst, w64, List.length_append, List.length_map, Nat.mul_one, beq_self_eq_true, Lim.cs, PathC.cs, RuleC.cs, gdP, gdR]
    repeat' ((first | refine CallO_pure (n1) ?_ | refine NewB_intro0 (fun b => ?_) | (refine NewB_intro (fun b hb => ?_); simp only [ln_cons2, ln_nil, and_true] at hb) | (with_reducible apply And.intro; (focus (first | omega | (simp only [Fact, Bool.not_eq_true', Bool.not_eq_false', decide_eq_true_eq, decide_eq_false_iff_not] at *; omega)))) | ((first | refine gW_sp ?_ | refine condW_sp ?_ | refine pickW_sp ?_); (try refine Sp_n ?_); (first | refine Sp_t (by assumption) ?_ | refine Sp_f (by assumption) ?_ | refine Sp_split (fun h => ?_) (fun h => ?_)) <;> (first | have h' := Fact_lt h | have h' := Fact_nlt h | have h' := Fact_le h | have h' := Fact_nle h | skip) <;> (try (exfalso; omega))) | refine TreeW_intro (by rfl) ?_ | refine TreeW_all ?_ | refine upQ_intro ?_ | refine Two_intro ?_ ?_ | (refine leK_lit ?_; (simp [-List.getD_eq_getElem?_getD, LeL, lk, *]; done)) | (refine leK_dd ?_; (simp [-List.getD_eq_getElem?_getD, LeS, LeL, lk, *]; done)) | (simp only [Fact, Bool.not_eq_true', Bool.not_eq_false', decide_eq_true_eq, decide_eq_false_iff_not] at *; refine leK_dd ?_; (simp [-List.getD_eq_getElem?_getD, LeS, LeL, lk, *]; done)) | (show (_ : Nat) ≤ _; omega)) <;> (try simp (disch := omega) only [*, ↓Ed, Eu, ↓reduceIte, reduceCtorEq, Nat.reduceAdd, Nat.reduceEqDiff, Nat.reduceLT, Nat.reduceLeDiff, Int.reduceToNat, Int.reduceEq, Int.reduceLT, Int.reduceLE, Int.toNat_natCast, al_so, al_al, al_pc, al_rc, al_pst, al_rst, w64, List.length_append, List.length_map, Nat.mul_one, beq_self_eq_true, Lim.cs, PathC.cs, RuleC.cs, gdP, gdR]))
  | true =>
  cases e2 : nameP c.b with
  | false =>
    rw [confMay_f fun g => by rw [g.2.1] at e2; cases e2]
    rw [e1] at n1
    rw [e2] at n2
    clear e1 e2
    simp only [c_ligref20_MayConf, ↓Ed, Eu, ↓reduceIte, reduceCtorEq, Nat.reduceAdd, Nat.reduceEqDiff, Nat.reduceLT, Nat.reduceLeDiff, Int.reduceToNat, Int.reduceEq, Int.reduceLT, Int.reduceLE, Int.toNat_natCast, al_so, al_al, al_pc, al_rc, al_pst, al_rst, w64, List.length_append, List.length_map, Nat.mul_one, beq_self_eq_true, Lim.cs, PathC.cs, RuleC.cs, gdP, gdR]
    repeat' ((first | refine CallO_pure (n1) ?_ | refine CallO_pure (n2) ?_ | refine NewB_intro0 (fun b => ?_) | (refine NewB_intro (fun b hb => ?_); simp only [ln_cons2, ln_nil, and_true] at hb) | (with_reducible apply And.intro; (focus (first | omega | (simp only [Fact, Bool.not_eq_true', Bool.not_eq_false', decide_eq_true_eq, decide_eq_false_iff_not] at *; omega)))) | ((first | refine gW_sp ?_ | refine condW_sp ?_ | refine pickW_sp ?_); (try refine Sp_n ?_); (first | refine Sp_t (by assumption) ?_ | refine Sp_f (by assumption) ?_ | refine Sp_split (fun h => ?_) (fun h => ?_)) <;> (first | have h' := Fact_lt h | have h' := Fact_nlt h | have h' := Fact_le h | have h' := Fact_nle h | skip) <;> (try (exfalso; omega))) | refine TreeW_intro (by rfl) ?_ | refine TreeW_all ?_ | refine upQ_intro ?_ | refine Two_intro ?_ ?_ | (refine leK_lit ?_; (simp [-List.getD_eq_getElem?_getD, LeL, lk, *]; done)) | (refine leK_dd ?_; (simp [-List.getD_eq_getElem?_getD, LeS, LeL, lk, *]; done)) | (simp only [Fact, Bool.not_eq_true', Bool.not_eq_false', decide_eq_true_eq, decide_eq_false_iff_not] at *; refine leK_dd ?_; (simp [-List.getD_eq_getElem?_getD, LeS, LeL, lk, *]; done)) | (show (_ : Nat) ≤ _; omega)) <;> (try simp (disch := omega) only [*, ↓Ed, Eu, ↓reduceIte, reduceCtorEq, Nat.reduceAdd, Nat.reduceEqDiff, Nat.reduceLT, Nat.reduceLeDiff, Int.reduceToNat, Int.reduceEq, Int.reduceLT, Int.reduceLE, Int.toNat_natCast, al_so, al_al, al_pc, al_rc, al_pst, al_rst, w64, List.length_append, List.length_map, Nat.mul_one, beq_self_eq_true, Lim.cs, PathC.cs, RuleC.cs, gdP, gdR]))
  | true =>
  rw [e1] at n1
  rw [e2] at n2
  by_cases e3 : c.a = c.b
  · rw [confMay_f fun g => g.2.2.1 e3]
    have f3 : Fact (decide (c.a = c.b) = true) := decide_eq_true e3
    clear e1 e2 e3
    simp only [c_ligref20_MayConf, ↓Ed, Eu, ↓reduceIte, reduceCtorEq, Nat.reduceAdd, Nat.reduceEqDiff, Nat.reduceLT, Nat.reduceLeDiff, Int.reduceToNat, Int.reduceEq, Int.reduceLT, Int.reduceLE, Int.toNat_natCast, al_so, al_al, al_pc, al_rc, al_pst, al_rst, w64, List.length_append, List.length_map, Nat.mul_one, beq_self_eq_true, Lim.cs, PathC.cs, RuleC.cs, gdP, gdR]
    repeat' ((first | refine CallO_pure (n1) ?_ | refine CallO_pure (n2) ?_ | refine NewB_intro0 (fun b => ?_) | (refine NewB_intro (fun b hb => ?_); simp only [ln_cons2, ln_nil, and_true] at hb) | (with_reducible apply And.intro; (focus (first | omega | (simp only [Fact, Bool.not_eq_true', Bool.not_eq_false', decide_eq_true_eq, decide_eq_false_iff_not] at *; omega)))) | ((first | refine gW_sp ?_ | refine condW_sp ?_ | refine pickW_sp ?_); (try refine Sp_n ?_); (first | refine Sp_t (by assumption) ?_ | refine Sp_f (by assumption) ?_ | refine Sp_split (fun h => ?_) (fun h => ?_)) <;> (first | have h' := Fact_lt h | have h' := Fact_nlt h | have h' := Fact_le h | have h' := Fact_nle h | skip) <;> (try (exfalso; omega))) | refine TreeW_intro (by rfl) ?_ | refine TreeW_all ?_ | refine upQ_intro ?_ | refine Two_intro ?_ ?_ | (refine leK_lit ?_; (simp [-List.getD_eq_getElem?_getD, LeL, lk, *]; done)) | (refine leK_dd ?_; (simp [-List.getD_eq_getElem?_getD, LeS, LeL, lk, *]; done)) | (simp only [Fact, Bool.not_eq_true', Bool.not_eq_false', decide_eq_true_eq, decide_eq_false_iff_not] at *; refine leK_dd ?_; (simp [-List.getD_eq_getElem?_getD, LeS, LeL, lk, *]; done)) | (show (_ : Nat) ≤ _; omega)) <;> (try simp (disch := omega) only [*, ↓Ed, Eu, ↓reduceIte, reduceCtorEq, Nat.reduceAdd, Nat.reduceEqDiff, Nat.reduceLT, Nat.reduceLeDiff, Int.reduceToNat, Int.reduceEq, Int.reduceLT, Int.reduceLE, Int.toNat_natCast, al_so, al_al, al_pc, al_rc, al_pst, al_rst, w64, List.length_append, List.length_map, Nat.mul_one, beq_self_eq_true, Lim.cs, PathC.cs, RuleC.cs, gdP, gdR]))
  have f3 : Fact (decide (c.a = c.b) = false) := decide_eq_false e3
  by_cases e4 : limQ c.la
  rotate_left
  · rw [confMay_f fun g => e4 g.2.2.2.1]
    rw [decide_eq_false e4] at m1
    clear e1 e2 e3 e4
    simp only [c_ligref20_MayConf, ↓Ed, Eu, ↓reduceIte, reduceCtorEq, Nat.reduceAdd, Nat.reduceEqDiff, Nat.reduceLT, Nat.reduceLeDiff, Int.reduceToNat, Int.reduceEq, Int.reduceLT, Int.reduceLE, Int.toNat_natCast, al_so, al_al, al_pc, al_rc, al_pst, al_rst, w64, List.length_append, List.length_map, Nat.mul_one, beq_self_eq_true, Lim.cs, PathC.cs, RuleC.cs, gdP, gdR]
    repeat' ((first | refine CallO_pure (n1) ?_ | refine CallO_pure (n2) ?_ | refine CallO_pure (m1) ?_ | refine NewB_intro0 (fun b => ?_) | (refine NewB_intro (fun b hb => ?_); simp only [ln_cons2, ln_nil, and_true] at hb) | (with_reducible apply And.intro; (focus (first | omega | (simp only [Fact, Bool.not_eq_true', Bool.not_eq_false', decide_eq_true_eq, decide_eq_false_iff_not] at *; omega)))) | ((first | refine gW_sp ?_ | refine condW_sp ?_ | refine pickW_sp ?_); (try refine Sp_n ?_); (first | refine Sp_t (by assumption) ?_ | refine Sp_f (by assumption) ?_ | refine Sp_split (fun h => ?_) (fun h => ?_)) <;> (first | have h' := Fact_lt h | have h' := Fact_nlt h | have h' := Fact_le h | have h' := Fact_nle h | skip) <;> (try (exfalso; omega))) | refine TreeW_intro (by rfl) ?_ | refine TreeW_all ?_ | refine upQ_intro ?_ | refine Two_intro ?_ ?_ | (refine leK_lit ?_; (simp [-List.getD_eq_getElem?_getD, LeL, lk, *]; done)) | (refine leK_dd ?_; (simp [-List.getD_eq_getElem?_getD, LeS, LeL, lk, *]; done)) | (simp only [Fact, Bool.not_eq_true', Bool.not_eq_false', decide_eq_true_eq, decide_eq_false_iff_not] at *; refine leK_dd ?_; (simp [-List.getD_eq_getElem?_getD, LeS, LeL, lk, *]; done)) | (show (_ : Nat) ≤ _; omega)) <;> (try simp (disch := omega) only [*, ↓Ed, Eu, ↓reduceIte, reduceCtorEq, Nat.reduceAdd, Nat.reduceEqDiff, Nat.reduceLT, Nat.reduceLeDiff, Int.reduceToNat, Int.reduceEq, Int.reduceLT, Int.reduceLE, Int.toNat_natCast, al_so, al_al, al_pc, al_rc, al_pst, al_rst, w64, List.length_append, List.length_map, Nat.mul_one, beq_self_eq_true, Lim.cs, PathC.cs, RuleC.cs, gdP, gdR]))
  rw [decide_eq_true e4] at m1
  by_cases e5 : limQ c.lb
  rotate_left
  · rw [confMay_f fun g => e5 g.2.2.2.2.1]
    rw [decide_eq_false e5] at m2
    clear e1 e2 e3 e4 e5
    simp only [c_ligref20_MayConf, ↓Ed, Eu, ↓reduceIte, reduceCtorEq, Nat.reduceAdd, Nat.reduceEqDiff, Nat.reduceLT, Nat.reduceLeDiff, Int.reduceToNat, Int.reduceEq, Int.reduceLT, Int.reduceLE, Int.toNat_natCast, al_so, al_al, al_pc, al_rc, al_pst, al_rst, w64, List.length_append, List.length_map, Nat.mul_one, beq_self_eq_true, Lim.cs, PathC.cs, RuleC.cs, gdP, gdR]
    repeat' ((first | refine CallO_pure (n1) ?_ | refine CallO_pure (n2) ?_ | refine CallO_pure (m1) ?_ | refine CallO_pure (m2) ?_ | refine NewB_intro0 (fun b => ?_) | (refine NewB_intro (fun b hb => ?_); simp only [ln_cons2, ln_nil, and_true] at hb) | (with_reducible apply And.intro; (focus (first | omega | (simp only [Fact, Bool.not_eq_true', Bool.not_eq_false', decide_eq_true_eq, decide_eq_false_iff_not] at *; omega)))) | ((first | refine gW_sp ?_ | refine condW_sp ?_ | refine pickW_sp ?_); (try refine Sp_n ?_); (first | refine Sp_t (by assumption) ?_ | refine Sp_f (by assumption) ?_ | refine Sp_split (fun h => ?_) (fun h => ?_)) <;> (first | have h' := Fact_lt h | have h' := Fact_nlt h | have h' := Fact_le h | have h' := Fact_nle h | skip) <;> (try (exfalso; omega))) | refine TreeW_intro (by rfl) ?_ | refine TreeW_all ?_ | refine upQ_intro ?_ | refine Two_intro ?_ ?_ | (refine leK_lit ?_; (simp [-List.getD_eq_getElem?_getD, LeL, lk, *]; done)) | (refine leK_dd ?_; (simp [-List.getD_eq_getElem?_getD, LeS, LeL, lk, *]; done)) | (simp only [Fact, Bool.not_eq_true', Bool.not_eq_false', decide_eq_true_eq, decide_eq_false_iff_not] at *; refine leK_dd ?_; (simp [-List.getD_eq_getElem?_getD, LeS, LeL, lk, *]; done)) | (show (_ : Nat) ≤ _; omega)) <;> (try simp (disch := omega) only [*, ↓Ed, Eu, ↓reduceIte, reduceCtorEq, Nat.reduceAdd, Nat.reduceEqDiff, Nat.reduceLT, Nat.reduceLeDiff, Int.reduceToNat, Int.reduceEq, Int.reduceLT, Int.reduceLE, Int.toNat_natCast, al_so, al_al, al_pc, al_rc, al_pst, al_rst, w64, List.length_append, List.length_map, Nat.mul_one, beq_self_eq_true, Lim.cs, PathC.cs, RuleC.cs, gdP, gdR]))
  rw [decide_eq_true e5] at m2
  by_cases e7 : c.ps.length ≤ 6
  rotate_left
  · rw [confMay_f fun g => e7 g.2.2.2.2.2.2.1]
    have f7 : Fact (decide (6 < (c.ps.length : Int)) = true) := by simp only [Fact, Bool.not_eq_true', Bool.not_eq_false', decide_eq_true_eq, decide_eq_false_iff_not]; omega
    clear e1 e2 e3 e4 e5 e7
    simp only [c_ligref20_MayConf, ↓Ed, Eu, ↓reduceIte, reduceCtorEq, Nat.reduceAdd, Nat.reduceEqDiff, Nat.reduceLT, Nat.reduceLeDiff, Int.reduceToNat, Int.reduceEq, Int.reduceLT, Int.reduceLE, Int.toNat_natCast, al_so, al_al, al_pc, al_rc, al_pst, al_rst, w64, List.length_append, List.length_map, Nat.mul_one, beq_self_eq_true, Lim.cs, PathC.cs, RuleC.cs, gdP, gdR]
    repeat' ((first | refine CallO_pure (n1) ?_ | refine CallO_pure (n2) ?_ | refine CallO_pure (m1) ?_ | refine CallO_pure (m2) ?_ | refine NewB_intro0 (fun b => ?_) | (refine NewB_intro (fun b hb => ?_); simp only [ln_cons2, ln_nil, and_true] at hb) | (with_reducible apply And.intro; (focus (first | omega | (simp only [Fact, Bool.not_eq_true', Bool.not_eq_false', decide_eq_true_eq, decide_eq_false_iff_not] at *; omega)))) | ((first | refine gW_sp ?_ | refine condW_sp ?_ | refine pickW_sp ?_); (try refine Sp_n ?_); (first | refine Sp_t (by assumption) ?_ | refine Sp_f (by assumption) ?_ | refine Sp_split (fun h => ?_) (fun h => ?_)) <;> (first | have h' := Fact_lt h | have h' := Fact_nlt h | have h' := Fact_le h | have h' := Fact_nle h | skip) <;> (try (exfalso; omega))) | refine TreeW_intro (by rfl) ?_ | refine TreeW_all ?_ | refine upQ_intro ?_ | refine Two_intro ?_ ?_ | (refine leK_lit ?_; (simp [-List.getD_eq_getElem?_getD, LeL, lk, *]; done)) | (refine leK_dd ?_; (simp [-List.getD_eq_getElem?_getD, LeS, LeL, lk, *]; done)) | (simp only [Fact, Bool.not_eq_true', Bool.not_eq_false', decide_eq_true_eq, decide_eq_false_iff_not] at *; refine leK_dd ?_; (simp [-List.getD_eq_getElem?_getD, LeS, LeL, lk, *]; done)) | (show (_ : Nat) ≤ _; omega)) <;> (try simp (disch := omega) only [*, ↓Ed, Eu, ↓reduceIte, reduceCtorEq, Nat.reduceAdd, Nat.reduceEqDiff, Nat.reduceLT, Nat.reduceLeDiff, Int.reduceToNat, Int.reduceEq, Int.reduceLT, Int.reduceLE, Int.toNat_natCast, al_so, al_al, al_pc, al_rc, al_pst, al_rst, w64, List.length_append, List.length_map, Nat.mul_one, beq_self_eq_true, Lim.cs, PathC.cs, RuleC.cs, gdP, gdR]))
  have f7 : Fact (decide (6 < (c.ps.length : Int)) = false) := by simp only [Fact, Bool.not_eq_true', Bool.not_eq_false', decide_eq_true_eq, decide_eq_false_iff_not]; omega
  by_cases e8 : c.rs.length ≤ 32
  rotate_left
  · rw [confMay_f fun g => e8 g.2.2.2.2.2.2.2.1]
    have f8 : Fact (decide (32 < (c.rs.length : Int)) = true) := by simp only [Fact, Bool.not_eq_true', Bool.not_eq_false', decide_eq_true_eq, decide_eq_false_iff_not]; omega
    clear e1 e2 e3 e4 e5 e8
    simp only [c_ligref20_MayConf, ↓Ed, Eu, ↓reduceIte, reduceCtorEq, Nat.reduceAdd, Nat.reduceEqDiff, Nat.reduceLT, Nat.reduceLeDiff, Int.reduceToNat, Int.reduceEq, Int.reduceLT, Int.reduceLE, Int.toNat_natCast, al_so, al_al, al_pc, al_rc, al_pst, al_rst, w64, List.length_append, List.length_map, Nat.mul_one, beq_self_eq_true, Lim.cs, PathC.cs, RuleC.cs, gdP, gdR]
    repeat' ((first | refine CallO_pure (n1) ?_ | refine CallO_pure (n2) ?_ | refine CallO_pure (m1) ?_ | refine CallO_pure (m2) ?_ | refine NewB_intro0 (fun b => ?_) | (refine NewB_intro (fun b hb => ?_); simp only [ln_cons2, ln_nil, and_true] at hb) | (with_reducible apply And.intro; (focus (first | omega | (simp only [Fact, Bool.not_eq_true', Bool.not_eq_false', decide_eq_true_eq, decide_eq_false_iff_not] at *; omega)))) | ((first | refine gW_sp ?_ | refine condW_sp ?_ | refine pickW_sp ?_); (try refine Sp_n ?_); (first | refine Sp_t (by assumption) ?_ | refine Sp_f (by assumption) ?_ | refine Sp_split (fun h => ?_) (fun h => ?_)) <;> (first | have h' := Fact_lt h | have h' := Fact_nlt h | have h' := Fact_le h | have h' := Fact_nle h | skip) <;> (try (exfalso; omega))) | refine TreeW_intro (by rfl) ?_ | refine TreeW_all ?_ | refine upQ_intro ?_ | refine Two_intro ?_ ?_ | (refine leK_lit ?_; (simp [-List.getD_eq_getElem?_getD, LeL, lk, *]; done)) | (refine leK_dd ?_; (simp [-List.getD_eq_getElem?_getD, LeS, LeL, lk, *]; done)) | (simp only [Fact, Bool.not_eq_true', Bool.not_eq_false', decide_eq_true_eq, decide_eq_false_iff_not] at *; refine leK_dd ?_; (simp [-List.getD_eq_getElem?_getD, LeS, LeL, lk, *]; done)) | (show (_ : Nat) ≤ _; omega)) <;> (try simp (disch := omega) only [*, ↓Ed, Eu, ↓reduceIte, reduceCtorEq, Nat.reduceAdd, Nat.reduceEqDiff, Nat.reduceLT, Nat.reduceLeDiff, Int.reduceToNat, Int.reduceEq, Int.reduceLT, Int.reduceLE, Int.toNat_natCast, al_so, al_al, al_pc, al_rc, al_pst, al_rst, w64, List.length_append, List.length_map, Nat.mul_one, beq_self_eq_true, Lim.cs, PathC.cs, RuleC.cs, gdP, gdR]))
  have f8 : Fact (decide (32 < (c.rs.length : Int)) = false) := by simp only [Fact, Bool.not_eq_true', Bool.not_eq_false', decide_eq_true_eq, decide_eq_false_iff_not]; omega
  by_cases e6 : 1 ≤ c.iv ∧ c.iv ≤ 1000000
  rotate_left
  · rw [confMay_f fun g => e6 g.2.2.2.2.2.1]
    have F : Fact (¬ (1 ≤ c.iv ∧ c.iv ≤ 1000000)) := e6
    clear e1 e2 e3 e4 e5 e6
    simp only [c_ligref20_MayConf, ↓Ed, Eu, ↓reduceIte, reduceCtorEq, Nat.reduceAdd, Nat.reduceEqDiff, Nat.reduceLT, Nat.reduceLeDiff, Int.reduceToNat, Int.reduceEq, Int.reduceLT, Int.reduceLE, Int.toNat_natCast, al_so, al_al, al_pc, al_rc, al_pst, al_rst, w64, List.length_append, List.length_map, Nat.mul_one, beq_self_eq_true, Lim.cs, PathC.cs, RuleC.cs, gdP, gdR]
    repeat' ((first | refine CallO_pure (n1) ?_ | refine CallO_pure (n2) ?_ | refine CallO_pure (m1) ?_ | refine CallO_pure (m2) ?_ | refine NewB_intro0 (fun b => ?_) | (refine NewB_intro (fun b hb => ?_); simp only [ln_cons2, ln_nil, and_true] at hb) | (with_reducible apply And.intro; (focus (first | omega | (simp only [Fact, Bool.not_eq_true', Bool.not_eq_false', decide_eq_true_eq, decide_eq_false_iff_not] at *; omega)))) | ((first | refine gW_sp ?_ | refine condW_sp ?_ | refine pickW_sp ?_); (try refine Sp_n ?_); (first | refine Sp_t (by assumption) ?_ | refine Sp_f (by assumption) ?_ | refine Sp_split (fun h => ?_) (fun h => ?_)) <;> (first | have h' := Fact_lt h | have h' := Fact_nlt h | have h' := Fact_le h | have h' := Fact_nle h | skip) <;> (try (exfalso; omega))) | refine TreeW_intro (by rfl) ?_ | refine TreeW_all ?_ | refine upQ_intro ?_ | refine Two_intro ?_ ?_ | (refine leK_lit ?_; (simp [-List.getD_eq_getElem?_getD, LeL, lk, *]; done)) | (refine leK_dd ?_; (simp [-List.getD_eq_getElem?_getD, LeS, LeL, lk, *]; done)) | (simp only [Fact, Bool.not_eq_true', Bool.not_eq_false', decide_eq_true_eq, decide_eq_false_iff_not] at *; refine leK_dd ?_; (simp [-List.getD_eq_getElem?_getD, LeS, LeL, lk, *]; done)) | (show (_ : Nat) ≤ _; omega)) <;> (try simp (disch := omega) only [*, ↓Ed, Eu, ↓reduceIte, reduceCtorEq, Nat.reduceAdd, Nat.reduceEqDiff, Nat.reduceLT, Nat.reduceLeDiff, Int.reduceToNat, Int.reduceEq, Int.reduceLT, Int.reduceLE, Int.toNat_natCast, al_so, al_al, al_pc, al_rc, al_pst, al_rst, w64, List.length_append, List.length_map, Nat.mul_one, beq_self_eq_true, Lim.cs, PathC.cs, RuleC.cs, gdP, gdR]))
    all_goals (exfalso; simp only [Fact, Bool.not_eq_true', Bool.not_eq_false', decide_eq_true_eq, decide_eq_false_iff_not] at *; omega)
  have f9 : Fact (decide (c.iv < 1) = false) := by simp only [Fact, Bool.not_eq_true', Bool.not_eq_false', decide_eq_true_eq, decide_eq_false_iff_not]; omega
  have f10 : Fact (decide (1000000 < c.iv) = false) := by simp only [Fact, Bool.not_eq_true', Bool.not_eq_false', decide_eq_true_eq, decide_eq_false_iff_not]; omega
  have HQ : Fact (pathsQ c.ps → rulesQ c.rs → confQ c) := fun g1 g2 => ⟨e1, e2, e3, e4, e5, e6, e7, e8, g1, g2⟩
  clear e1 e2 e3 e4 e5 e6
  simp only [c_ligref20_MayConf, ↓Ed, Eu, ↓reduceIte, reduceCtorEq, Nat.reduceAdd, Nat.reduceEqDiff, Nat.reduceLT, Nat.reduceLeDiff, Int.reduceToNat, Int.reduceEq, Int.reduceLT, Int.reduceLE, Int.toNat_natCast, al_so, al_al, al_pc, al_rc, al_pst, al_rst, w64, List.length_append, List.length_map, Nat.mul_one, beq_self_eq_true, Lim.cs, PathC.cs, RuleC.cs, gdP, gdR]
  repeat' ((first | refine CallO_pure (n1) ?_ | refine CallO_pure (n2) ?_ | refine CallO_pure (m1) ?_ | refine CallO_pure (m2) ?_ | refine NewB_intro0 (fun b => ?_) | (refine NewB_intro (fun b hb => ?_); simp only [ln_cons2, ln_nil, and_true] at hb) | (with_reducible apply And.intro; (focus (first | omega | (simp only [Fact, Bool.not_eq_true', Bool.not_eq_false', decide_eq_true_eq, decide_eq_false_iff_not] at *; omega)))) | ((first | refine gW_sp ?_ | refine condW_sp ?_ | refine pickW_sp ?_); (try refine Sp_n ?_); (first | refine Sp_t (by assumption) ?_ | refine Sp_f (by assumption) ?_ | refine Sp_split (fun h => ?_) (fun h => ?_)) <;> (first | have h' := Fact_lt h | have h' := Fact_nlt h | have h' := Fact_le h | have h' := Fact_nle h | skip) <;> (try (exfalso; omega))) | refine TreeW_intro (by rfl) ?_ | refine TreeW_all ?_ | refine upQ_intro ?_ | refine Two_intro ?_ ?_ | (refine leK_lit ?_; (simp [-List.getD_eq_getElem?_getD, LeL, lk, *]; done)) | (refine leK_dd ?_; (simp [-List.getD_eq_getElem?_getD, LeS, LeL, lk, *]; done)) | (simp only [Fact, Bool.not_eq_true', Bool.not_eq_false', decide_eq_true_eq, decide_eq_false_iff_not] at *; refine leK_dd ?_; (simp [-List.getD_eq_getElem?_getD, LeS, LeL, lk, *]; done)) | (show (_ : Nat) ≤ _; omega)) <;> (try simp (disch := omega) only [*, ↓Ed, Eu, ↓reduceIte, reduceCtorEq, Nat.reduceAdd, Nat.reduceEqDiff, Nat.reduceLT, Nat.reduceLeDiff, Int.reduceToNat, Int.reduceEq, Int.reduceLT, Int.reduceLE, Int.toNat_natCast, al_so, al_al, al_pc, al_rc, al_pst, al_rst, w64, List.length_append, List.length_map, Nat.mul_one, beq_self_eq_true, Lim.cs, PathC.cs, RuleC.cs, gdP, gdR]))
  clear n1 n2 m1 m2
  refine wpx_loop (fun k : Nat => ⟨lk [(1, .ptr b 0), (3, .int .i64 (k : Int))], lk [(b, [.str c.a, .str c.b, .int .i64 c.la.g, .int .i64 c.la.b, .int .i64 c.la.n, .int .i64 c.lb.g, .int .i64 c.lb.b, .int .i64 c.lb.n, p1.store, r1.store, .int .i64 c.iv])]⟩) (fun k => k ≤ c.ps.length ∧ Fact (∀ j, j < k → pathMay (c.ps.getD j default) = true ∧ apartP (c.ps.getD j default) (c.ps.take j) = true)) (fun k => c.ps.length - k) 0 ⟨by omega, fun j hj => by omega⟩ (Le_lit (by simp [LeL, lk])) ?_
  rintro k ⟨g1, g2⟩
  by_cases hk : k < c.ps.length
  · have f11 : Fact (decide ((k : Int) < c.ps.length) = true) := by simp only [Fact, Bool.not_eq_true', Bool.not_eq_false', decide_eq_true_eq, decide_eq_false_iff_not]; omega
    have sk := sp k
    have q1 := p_MayEnd (c.ps.getD k default).ap (c.ps.getD k default).ac (by omega)
    have q2 := p_MayEnd (c.ps.getD k default).bp (c.ps.getD k default).bc (by omega)
    by_cases hpm : pathMay (c.ps.getD k default) = true
    rotate_left
    · rw [confMay_f fun g => hpm (g.2.2.2.2.2.2.2.2.1 k hk).1]
      have F : Fact (¬ pathMay (c.ps.getD k default) = true) := hpm
      clear hpm g2 sp sr
      cases hA : mayP (c.ps.getD k default).ap (c.ps.getD k default).ac with
      | false =>
        rw [hA] at q1
        clear hA q2
        simp (disch := omega) only [h1, h2, ↓Ed, Eu, ↓reduceIte, reduceCtorEq, Nat.reduceAdd, Nat.reduceEqDiff, Nat.reduceLT, Nat.reduceLeDiff, Int.reduceToNat, Int.reduceEq, Int.reduceLT, Int.reduceLE, Int.toNat_natCast, al_so, al_al, al_pc, al_rc, al_pst, al_rst, w64, List.length_append, List.length_map, Nat.mul_one, beq_self_eq_true, Lim.cs, PathC.cs, RuleC.cs, gdP, gdR]
        repeat' ((first | refine CallO_pure (q1) ?_ | refine NewB_intro0 (fun b => ?_) | (refine NewB_intro (fun b hb => ?_); simp only [ln_cons2, ln_nil, and_true] at hb) | (with_reducible apply And.intro; (focus (first | omega | (simp only [Fact, Bool.not_eq_true', Bool.not_eq_false', decide_eq_true_eq, decide_eq_false_iff_not] at *; omega)))) | ((first | refine gW_sp ?_ | refine condW_sp ?_ | refine pickW_sp ?_); (try refine Sp_n ?_); (first | refine Sp_t (by assumption) ?_ | refine Sp_f (by assumption) ?_ | refine Sp_split (fun h => ?_) (fun h => ?_)) <;> (first | have h' := Fact_lt h | have h' := Fact_nlt h | have h' := Fact_le h | have h' := Fact_nle h | skip) <;> (try (exfalso; omega))) | refine TreeW_intro (by rfl) ?_ | refine TreeW_all ?_ | refine upQ_intro ?_ | refine Two_intro ?_ ?_ | (refine leK_lit ?_; (simp [-List.getD_eq_getElem?_getD, LeL, lk, *]; done)) | (refine leK_dd ?_; (simp [-List.getD_eq_getElem?_getD, LeS, LeL, lk, *]; done)) | (simp only [Fact, Bool.not_eq_true', Bool.not_eq_false', decide_eq_true_eq, decide_eq_false_iff_not] at *; refine leK_dd ?_; (simp [-List.getD_eq_getElem?_getD, LeS, LeL, lk, *]; done)) | (show (_ : Nat) ≤ _; omega)) <;> (try simp (disch := omega) only [*, ↓Ed, Eu, ↓reduceIte, reduceCtorEq, Nat.reduceAdd, Nat.reduceEqDiff, Nat.reduceLT, Nat.reduceLeDiff, Int.reduceToNat, Int.reduceEq, Int.reduceLT, Int.reduceLE, Int.toNat_natCast, al_so, al_al, al_pc, al_rc, al_pst, al_rst, w64, List.length_append, List.length_map, Nat.mul_one, beq_self_eq_true, Lim.cs, PathC.cs, RuleC.cs, gdP, gdR]))
      | true =>
        cases hB : mayP (c.ps.getD k default).bp (c.ps.getD k default).bc with
        | false =>
          rw [hA] at q1
          rw [hB] at q2
          clear hA hB
          simp (disch := omega) only [h1, h2, ↓Ed, Eu, ↓reduceIte, reduceCtorEq, Nat.reduceAdd, Nat.reduceEqDiff, Nat.reduceLT, Nat.reduceLeDiff, Int.reduceToNat, Int.reduceEq, Int.reduceLT, Int.reduceLE, Int.toNat_natCast, al_so, al_al, al_pc, al_rc, al_pst, al_rst, w64, List.length_append, List.length_map, Nat.mul_one, beq_self_eq_true, Lim.cs, PathC.cs, RuleC.cs, gdP, gdR]
          repeat' ((first | refine CallO_pure (q1) ?_ | refine CallO_pure (q2) ?_ | refine NewB_intro0 (fun b => ?_) | (refine NewB_intro (fun b hb => ?_); simp only [ln_cons2, ln_nil, and_true] at hb) | (with_reducible apply And.intro; (focus (first | omega | (simp only [Fact, Bool.not_eq_true', Bool.not_eq_false', decide_eq_true_eq, decide_eq_false_iff_not] at *; omega)))) | ((first | refine gW_sp ?_ | refine condW_sp ?_ | refine pickW_sp ?_); (try refine Sp_n ?_); (first | refine Sp_t (by assumption) ?_ | refine Sp_f (by assumption) ?_ | refine Sp_split (fun h => ?_) (fun h => ?_)) <;> (first | have h' := Fact_lt h | have h' := Fact_nlt h | have h' := Fact_le h | have h' := Fact_nle h | skip) <;> (try (exfalso; omega))) | refine TreeW_intro (by rfl) ?_ | refine TreeW_all ?_ | refine upQ_intro ?_ | refine Two_intro ?_ ?_ | (refine leK_lit ?_; (simp [-List.getD_eq_getElem?_getD, LeL, lk, *]; done)) | (refine leK_dd ?_; (simp [-List.getD_eq_getElem?_getD, LeS, LeL, lk, *]; done)) | (simp only [Fact, Bool.not_eq_true', Bool.not_eq_false', decide_eq_true_eq, decide_eq_false_iff_not] at *; refine leK_dd ?_; (simp [-List.getD_eq_getElem?_getD, LeS, LeL, lk, *]; done)) | (show (_ : Nat) ≤ _; omega)) <;> (try simp (disch := omega) only [*, ↓Ed, Eu, ↓reduceIte, reduceCtorEq, Nat.reduceAdd, Nat.reduceEqDiff, Nat.reduceLT, Nat.reduceLeDiff, Int.reduceToNat, Int.reduceEq, Int.reduceLT, Int.reduceLE, Int.toNat_natCast, al_so, al_al, al_pc, al_rc, al_pst, al_rst, w64, List.length_append, List.length_map, Nat.mul_one, beq_self_eq_true, Lim.cs, PathC.cs, RuleC.cs, gdP, gdR]))
        | true => exact absurd (by simp only [pathMay, hA, hB, Bool.and_self]) F
    have hAB : mayP (c.ps.getD k default).ap (c.ps.getD k default).ac = true ∧ mayP (c.ps.getD k default).bp (c.ps.getD k default).bc = true := by simpa only [pathMay, Bool.and_eq_true] using hpm
    rw [hAB.1] at q1
    rw [hAB.2] at q2
    have hPM : Fact (pathMay (c.ps.getD k default) = true) := hpm
    clear hpm hAB
    simp (disch := omega) only [h1, h2, ↓Ed, Eu, ↓reduceIte, reduceCtorEq, Nat.reduceAdd, Nat.reduceEqDiff, Nat.reduceLT, Nat.reduceLeDiff, Int.reduceToNat, Int.reduceEq, Int.reduceLT, Int.reduceLE, Int.toNat_natCast, al_so, al_al, al_pc, al_rc, al_pst, al_rst, w64, List.length_append, List.length_map, Nat.mul_one, beq_self_eq_true, Lim.cs, PathC.cs, RuleC.cs, gdP, gdR]
    repeat' ((first | refine CallO_pure (q1) ?_ | refine CallO_pure (q2) ?_ | refine NewB_intro0 (fun b => ?_) | (refine NewB_intro (fun b hb => ?_); simp only [ln_cons2, ln_nil, and_true] at hb) | (with_reducible apply And.intro; (focus (first | omega | (simp only [Fact, Bool.not_eq_true', Bool.not_eq_false', decide_eq_true_eq, decide_eq_false_iff_not] at *; omega)))) | ((first | refine gW_sp ?_ | refine condW_sp ?_ | refine pickW_sp ?_); (try refine Sp_n ?_); (first | refine Sp_t (by assumption) ?_ | refine Sp_f (by assumption) ?_ | refine Sp_split (fun h => ?_) (fun h => ?_)) <;> (first | have h' := Fact_lt h | have h' := Fact_nlt h | have h' := Fact_le h | have h' := Fact_nle h | skip) <;> (try (exfalso; omega))) | refine TreeW_intro (by rfl) ?_ | refine TreeW_all ?_ | refine upQ_intro ?_ | refine Two_intro ?_ ?_ | (refine leK_lit ?_; (simp [-List.getD_eq_getElem?_getD, LeL, lk, *]; done)) | (refine leK_dd ?_; (simp [-List.getD_eq_getElem?_getD, LeS, LeL, lk, *]; done)) | (simp only [Fact, Bool.not_eq_true', Bool.not_eq_false', decide_eq_true_eq, decide_eq_false_iff_not] at *; refine leK_dd ?_; (simp [-List.getD_eq_getElem?_getD, LeS, LeL, lk, *]; done)) | (show (_ : Nat) ≤ _; omega)) <;> (try simp (disch := omega) only [*, ↓Ed, Eu, ↓reduceIte, reduceCtorEq, Nat.reduceAdd, Nat.reduceEqDiff, Nat.reduceLT, Nat.reduceLeDiff, Int.reduceToNat, Int.reduceEq, Int.reduceLT, Int.reduceLE, Int.toNat_natCast, al_so, al_al, al_pc, al_rc, al_pst, al_rst, w64, List.length_append, List.length_map, Nat.mul_one, beq_self_eq_true, Lim.cs, PathC.cs, RuleC.cs, gdP, gdR]))
    clear q1 q2
    refine wpx_loop (fun j : Nat => ⟨lk [(1, .ptr b 0), (3, .int .i64 (k : Int)), (4, .int .i64 (j : Int))], lk [(b, [.str c.a, .str c.b, .int .i64 c.la.g, .int .i64 c.la.b, .int .i64 c.la.n, .int .i64 c.lb.g, .int .i64 c.lb.b, .int .i64 c.lb.n, p1.store, r1.store, .int .i64 c.iv])]⟩) (fun j => j ≤ k ∧ Fact (apartP (c.ps.getD k default) (c.ps.take j) = true)) (fun j => k - j) 0 ⟨by omega, by simp [Fact, apartP]⟩ (Le_lit (by simp [LeL, lk])) ?_
    rintro j ⟨g3, g4⟩
    by_cases hj : j < k
    · have f12 : Fact (decide ((j : Int) < (k : Int)) = true) := by simp only [Fact, Bool.not_eq_true', Bool.not_eq_false', decide_eq_true_eq, decide_eq_false_iff_not]; omega
      have hjl : j < c.ps.length := by omega
      cases hmt : meets (c.ps.getD j default) (c.ps.getD k default) with
      | true =>
        rw [confMay_f fun g => by have := (g.2.2.2.2.2.2.2.2.1 k hk).2; rw [apart_badk hj g1 hmt] at this; cases this]
        have F : Fact (((c.ps.getD j default).ap = (c.ps.getD k default).ap ∧ (c.ps.getD j default).ac = (c.ps.getD k default).ac) ∨ ((c.ps.getD j default).bp = (c.ps.getD k default).bp ∧ (c.ps.getD j default).bc = (c.ps.getD k default).bc)) := by
          unfold Fact; simpa only [meets, Bool.or_eq_true, decide_eq_true_eq] using hmt
        clear hmt g2 g4 sp sr sk hPM
        simp (disch := omega) only [h1, h2, ↓Ed, Eu, ↓reduceIte, reduceCtorEq, Nat.reduceAdd, Nat.reduceEqDiff, Nat.reduceLT, Nat.reduceLeDiff, Int.reduceToNat, Int.reduceEq, Int.reduceLT, Int.reduceLE, Int.toNat_natCast, al_so, al_al, al_pc, al_rc, al_pst, al_rst, w64, List.length_append, List.length_map, Nat.mul_one, beq_self_eq_true, Lim.cs, PathC.cs, RuleC.cs, gdP, gdR]
        repeat' ((first | refine NewB_intro0 (fun b => ?_) | (refine NewB_intro (fun b hb => ?_); simp only [ln_cons2, ln_nil, and_true] at hb) | (with_reducible apply And.intro; (focus (first | omega | (simp only [Fact, Bool.not_eq_true', Bool.not_eq_false', decide_eq_true_eq, decide_eq_false_iff_not] at *; omega)))) | ((first | refine gW_sp ?_ | refine condW_sp ?_ | refine pickW_sp ?_); (try refine Sp_n ?_); (first | refine Sp_t (by assumption) ?_ | refine Sp_f (by assumption) ?_ | refine Sp_split (fun h => ?_) (fun h => ?_)) <;> (first | have h' := Fact_lt h | have h' := Fact_nlt h | have h' := Fact_le h | have h' := Fact_nle h | skip) <;> (try (exfalso; omega))) | refine TreeW_intro (by rfl) ?_ | refine TreeW_all ?_ | refine upQ_intro ?_ | refine Two_intro ?_ ?_ | (refine leK_lit ?_; (simp [-List.getD_eq_getElem?_getD, LeL, lk, *]; done)) | (refine leK_dd ?_; (simp [-List.getD_eq_getElem?_getD, LeS, LeL, lk, *]; done)) | (simp only [Fact, Bool.not_eq_true', Bool.not_eq_false', decide_eq_true_eq, decide_eq_false_iff_not] at *; refine leK_dd ?_; (simp [-List.getD_eq_getElem?_getD, LeS, LeL, lk, *]; done)) | (show (_ : Nat) ≤ _; omega)) <;> (try simp (disch := omega) only [*, ↓Ed, Eu, ↓reduceIte, reduceCtorEq, Nat.reduceAdd, Nat.reduceEqDiff, Nat.reduceLT, Nat.reduceLeDiff, Int.reduceToNat, Int.reduceEq, Int.reduceLT, Int.reduceLE, Int.toNat_natCast, al_so, al_al, al_pc, al_rc, al_pst, al_rst, w64, List.length_append, List.length_map, Nat.mul_one, beq_self_eq_true, Lim.cs, PathC.cs, RuleC.cs, gdP, gdR]))
        all_goals
          exfalso
          simp only [Fact, Bool.not_eq_true', Bool.not_eq_false', decide_eq_true_eq, decide_eq_false_iff_not, Bool.and_eq_false_iff] at *
          rcases F with ⟨F1, F2⟩ | ⟨F1, F2⟩
          · simp_all
          · simp_all
      | false =>
        have F : Fact (¬ ((c.ps.getD j default).ap = (c.ps.getD k default).ap ∧ (c.ps.getD j default).ac = (c.ps.getD k default).ac) ∧ ¬ ((c.ps.getD j default).bp = (c.ps.getD k default).bp ∧ (c.ps.getD j default).bc = (c.ps.getD k default).bc)) := by
          unfold Fact; simpa only [meets, Bool.or_eq_false_iff, decide_eq_false_iff_not] using hmt
        have hN : Fact (apartP (c.ps.getD k default) (c.ps.take (j + 1)) = true) := by
          simp only [Fact] at g4 ⊢
          rw [apart_take hjl, g4, hmt]; rfl
        clear hmt g4 sk
        simp (disch := omega) only [h1, h2, ↓Ed, Eu, ↓reduceIte, reduceCtorEq, Nat.reduceAdd, Nat.reduceEqDiff, Nat.reduceLT, Nat.reduceLeDiff, Int.reduceToNat, Int.reduceEq, Int.reduceLT, Int.reduceLE, Int.toNat_natCast, al_so, al_al, al_pc, al_rc, al_pst, al_rst, w64, List.length_append, List.length_map, Nat.mul_one, beq_self_eq_true, Lim.cs, PathC.cs, RuleC.cs, gdP, gdR]
        repeat' ((first | refine NewB_intro0 (fun b => ?_) | (refine NewB_intro (fun b hb => ?_); simp only [ln_cons2, ln_nil, and_true] at hb) | (with_reducible apply And.intro; (focus (first | omega | (simp only [Fact, Bool.not_eq_true', Bool.not_eq_false', decide_eq_true_eq, decide_eq_false_iff_not] at *; omega)))) | ((first | refine gW_sp ?_ | refine condW_sp ?_ | refine pickW_sp ?_); (try refine Sp_n ?_); (first | refine Sp_t (by assumption) ?_ | refine Sp_f (by assumption) ?_ | refine Sp_split (fun h => ?_) (fun h => ?_)) <;> (first | have h' := Fact_lt h | have h' := Fact_nlt h | have h' := Fact_le h | have h' := Fact_nle h | skip) <;> (try (exfalso; omega))) | refine TreeW_intro (by rfl) ?_ | refine TreeW_all ?_ | refine upQ_intro ?_ | refine Two_intro ?_ ?_ | (refine leK_lit ?_; (simp [-List.getD_eq_getElem?_getD, LeL, lk, *]; done)) | (refine leK_dd ?_; (simp [-List.getD_eq_getElem?_getD, LeS, LeL, lk, *]; done)) | (simp only [Fact, Bool.not_eq_true', Bool.not_eq_false', decide_eq_true_eq, decide_eq_false_iff_not] at *; refine leK_dd ?_; (simp [-List.getD_eq_getElem?_getD, LeS, LeL, lk, *]; done)) | (show (_ : Nat) ≤ _; omega)) <;> (try simp (disch := omega) only [*, ↓Ed, Eu, ↓reduceIte, reduceCtorEq, Nat.reduceAdd, Nat.reduceEqDiff, Nat.reduceLT, Nat.reduceLeDiff, Int.reduceToNat, Int.reduceEq, Int.reduceLT, Int.reduceLE, Int.toNat_natCast, al_so, al_al, al_pc, al_rc, al_pst, al_rst, w64, List.length_append, List.length_map, Nat.mul_one, beq_self_eq_true, Lim.cs, PathC.cs, RuleC.cs, gdP, gdR]))
        all_goals first
          | exact Round_lit (j + 1) ⟨Le_lit (by simp [LeL, lk]), ⟨by omega, hN⟩, by omega⟩
          | (exfalso; simp only [Fact, Bool.not_eq_true', Bool.not_eq_false', decide_eq_true_eq, decide_eq_false_iff_not, Bool.and_eq_true] at *; rcases F with ⟨F1, F2⟩; first | exact F1 (by assumption) | exact F2 (by assumption))
    have f12 : Fact (decide ((j : Int) < (k : Int)) = false) := by simp only [Fact, Bool.not_eq_true', Bool.not_eq_false', decide_eq_true_eq, decide_eq_false_iff_not]; omega
    obtain rfl : j = k := by omega
    have g5 : Fact (∀ i, i < j + 1 → pathMay (c.ps.getD i default) = true ∧ apartP (c.ps.getD i default) (c.ps.take i) = true) := fun i hi => by
      by_cases e : i = j
      · subst e; exact ⟨hPM, g4⟩
      · exact g2 i (by omega)
    clear g4 g2 sk hj
    simp (disch := omega) only [h1, h2, ↓Ed, Eu, ↓reduceIte, reduceCtorEq, Nat.reduceAdd, Nat.reduceEqDiff, Nat.reduceLT, Nat.reduceLeDiff, Int.reduceToNat, Int.reduceEq, Int.reduceLT, Int.reduceLE, Int.toNat_natCast, al_so, al_al, al_pc, al_rc, al_pst, al_rst, w64, List.length_append, List.length_map, Nat.mul_one, beq_self_eq_true, Lim.cs, PathC.cs, RuleC.cs, gdP, gdR]
    repeat' ((first | refine NewB_intro0 (fun b => ?_) | (refine NewB_intro (fun b hb => ?_); simp only [ln_cons2, ln_nil, and_true] at hb) | (with_reducible apply And.intro; (focus (first | omega | (simp only [Fact, Bool.not_eq_true', Bool.not_eq_false', decide_eq_true_eq, decide_eq_false_iff_not] at *; omega)))) | ((first | refine gW_sp ?_ | refine condW_sp ?_ | refine pickW_sp ?_); (try refine Sp_n ?_); (first | refine Sp_t (by assumption) ?_ | refine Sp_f (by assumption) ?_ | refine Sp_split (fun h => ?_) (fun h => ?_)) <;> (first | have h' := Fact_lt h | have h' := Fact_nlt h | have h' := Fact_le h | have h' := Fact_nle h | skip) <;> (try (exfalso; omega))) | refine TreeW_intro (by rfl) ?_ | refine TreeW_all ?_ | refine upQ_intro ?_ | refine Two_intro ?_ ?_ | (refine leK_lit ?_; (simp [-List.getD_eq_getElem?_getD, LeL, lk, *]; done)) | (refine leK_dd ?_; (simp [-List.getD_eq_getElem?_getD, LeS, LeL, lk, *]; done)) | (simp only [Fact, Bool.not_eq_true', Bool.not_eq_false', decide_eq_true_eq, decide_eq_false_iff_not] at *; refine leK_dd ?_; (simp [-List.getD_eq_getElem?_getD, LeS, LeL, lk, *]; done)) | (show (_ : Nat) ≤ _; omega)) <;> (try simp (disch := omega) only [*, ↓Ed, Eu, ↓reduceIte, reduceCtorEq, Nat.reduceAdd, Nat.reduceEqDiff, Nat.reduceLT, Nat.reduceLeDiff, Int.reduceToNat, Int.reduceEq, Int.reduceLT, Int.reduceLE, Int.toNat_natCast, al_so, al_al, al_pc, al_rc, al_pst, al_rst, w64, List.length_append, List.length_map, Nat.mul_one, beq_self_eq_true, Lim.cs, PathC.cs, RuleC.cs, gdP, gdR]))
    exact Round_lit (j + 1) ⟨Le_lit (by simp [LeL, lk]), ⟨by omega, g5⟩, by omega⟩
  have f11 : Fact (decide ((k : Int) < c.ps.length) = false) := by simp only [Fact, Bool.not_eq_true', Bool.not_eq_false', decide_eq_true_eq, decide_eq_false_iff_not]; omega
  have HP : Fact (pathsQ c.ps) := fun j hj => g2 j (by omega)
  clear g2
  simp (disch := omega) only [h1, h2, ↓Ed, Eu, ↓reduceIte, reduceCtorEq, Nat.reduceAdd, Nat.reduceEqDiff, Nat.reduceLT, Nat.reduceLeDiff, Int.reduceToNat, Int.reduceEq, Int.reduceLT, Int.reduceLE, Int.toNat_natCast, al_so, al_al, al_pc, al_rc, al_pst, al_rst, w64, List.length_append, List.length_map, Nat.mul_one, beq_self_eq_true, Lim.cs, PathC.cs, RuleC.cs, gdP, gdR]
  repeat' ((first | refine NewB_intro0 (fun b => ?_) | (refine NewB_intro (fun b hb => ?_); simp only [ln_cons2, ln_nil, and_true] at hb) | (with_reducible apply And.intro; (focus (first | omega | (simp only [Fact, Bool.not_eq_true', Bool.not_eq_false', decide_eq_true_eq, decide_eq_false_iff_not] at *; omega)))) | ((first | refine gW_sp ?_ | refine condW_sp ?_ | refine pickW_sp ?_); (try refine Sp_n ?_); (first | refine Sp_t (by assumption) ?_ | refine Sp_f (by assumption) ?_ | refine Sp_split (fun h => ?_) (fun h => ?_)) <;> (first | have h' := Fact_lt h | have h' := Fact_nlt h | have h' := Fact_le h | have h' := Fact_nle h | skip) <;> (try (exfalso; omega))) | refine TreeW_intro (by rfl) ?_ | refine TreeW_all ?_ | refine upQ_intro ?_ | refine Two_intro ?_ ?_ | (refine leK_lit ?_; (simp [-List.getD_eq_getElem?_getD, LeL, lk, *]; done)) | (refine leK_dd ?_; (simp [-List.getD_eq_getElem?_getD, LeS, LeL, lk, *]; done)) | (simp only [Fact, Bool.not_eq_true', Bool.not_eq_false', decide_eq_true_eq, decide_eq_false_iff_not] at *; refine leK_dd ?_; (simp [-List.getD_eq_getElem?_getD, LeS, LeL, lk, *]; done)) | (show (_ : Nat) ≤ _; omega)) <;> (try simp (disch := omega) only [*, ↓Ed, Eu, ↓reduceIte, reduceCtorEq, Nat.reduceAdd, Nat.reduceEqDiff, Nat.reduceLT, Nat.reduceLeDiff, Int.reduceToNat, Int.reduceEq, Int.reduceLT, Int.reduceLE, Int.toNat_natCast, al_so, al_al, al_pc, al_rc, al_pst, al_rst, w64, List.length_append, List.length_map, Nat.mul_one, beq_self_eq_true, Lim.cs, PathC.cs, RuleC.cs, gdP, gdR]))
  clear f11 g1 hk
  refine wpx_loop (fun k : Nat => ⟨lk [(1, .ptr b 0), (5, .int .i64 (k : Int))], lk [(b, [.str c.a, .str c.b, .int .i64 c.la.g, .int .i64 c.la.b, .int .i64 c.la.n, .int .i64 c.lb.g, .int .i64 c.lb.b, .int .i64 c.lb.n, p1.store, r1.store, .int .i64 c.iv])]⟩) (fun k => k ≤ c.rs.length ∧ Fact (∀ j, j < k → mayG (c.rs.getD j default).pt = true)) (fun k => c.rs.length - k) 0 ⟨by omega, fun j hj => by omega⟩ (Le_lit (by simp [LeL, lk])) ?_
  rintro k ⟨g1, g2⟩
  by_cases hk : k < c.rs.length
  · have f11 : Fact (decide ((k : Int) < c.rs.length) = true) := by simp only [Fact, Bool.not_eq_true', Bool.not_eq_false', decide_eq_true_eq, decide_eq_false_iff_not]; omega
    have q1 := p_MayGlob (c.rs.getD k default).pt (sr k)
    cases hG : mayG (c.rs.getD k default).pt with
    | false =>
      rw [confMay_f fun g => by have := g.2.2.2.2.2.2.2.2.2 k hk; rw [hG] at this; cases this]
      rw [hG] at q1
      clear hG g2
      simp (disch := omega) only [h1, h2, ↓Ed, Eu, ↓reduceIte, reduceCtorEq, Nat.reduceAdd, Nat.reduceEqDiff, Nat.reduceLT, Nat.reduceLeDiff, Int.reduceToNat, Int.reduceEq, Int.reduceLT, Int.reduceLE, Int.toNat_natCast, al_so, al_al, al_pc, al_rc, al_pst, al_rst, w64, List.length_append, List.length_map, Nat.mul_one, beq_self_eq_true, Lim.cs, PathC.cs, RuleC.cs, gdP, gdR]
      repeat' ((first | refine CallO_pure (q1) ?_ | refine NewB_intro0 (fun b => ?_) | (refine NewB_intro (fun b hb => ?_); simp only [ln_cons2, ln_nil, and_true] at hb) | (with_reducible apply And.intro; (focus (first | omega | (simp only [Fact, Bool.not_eq_true', Bool.not_eq_false', decide_eq_true_eq, decide_eq_false_iff_not] at *; omega)))) | ((first | refine gW_sp ?_ | refine condW_sp ?_ | refine pickW_sp ?_); (try refine Sp_n ?_); (first | refine Sp_t (by assumption) ?_ | refine Sp_f (by assumption) ?_ | refine Sp_split (fun h => ?_) (fun h => ?_)) <;> (first | have h' := Fact_lt h | have h' := Fact_nlt h | have h' := Fact_le h | have h' := Fact_nle h | skip) <;> (try (exfalso; omega))) | refine TreeW_intro (by rfl) ?_ | refine TreeW_all ?_ | refine upQ_intro ?_ | refine Two_intro ?_ ?_ | (refine leK_lit ?_; (simp [-List.getD_eq_getElem?_getD, LeL, lk, *]; done)) | (refine leK_dd ?_; (simp [-List.getD_eq_getElem?_getD, LeS, LeL, lk, *]; done)) | (simp only [Fact, Bool.not_eq_true', Bool.not_eq_false', decide_eq_true_eq, decide_eq_false_iff_not] at *; refine leK_dd ?_; (simp [-List.getD_eq_getElem?_getD, LeS, LeL, lk, *]; done)) | (show (_ : Nat) ≤ _; omega)) <;> (try simp (disch := omega) only [*, ↓Ed, Eu, ↓reduceIte, reduceCtorEq, Nat.reduceAdd, Nat.reduceEqDiff, Nat.reduceLT, Nat.reduceLeDiff, Int.reduceToNat, Int.reduceEq, Int.reduceLT, Int.reduceLE, Int.toNat_natCast, al_so, al_al, al_pc, al_rc, al_pst, al_rst, w64, List.length_append, List.length_map, Nat.mul_one, beq_self_eq_true, Lim.cs, PathC.cs, RuleC.cs, gdP, gdR]))
    | true =>
      have g5 : Fact (∀ j, j < k + 1 → mayG (c.rs.getD j default).pt = true) := fun j hj => by
        by_cases e : j = k
        · subst e; exact hG
        · exact g2 j (by omega)
      rw [hG] at q1
      clear hG g2
      simp (disch := omega) only [h1, h2, ↓Ed, Eu, ↓reduceIte, reduceCtorEq, Nat.reduceAdd, Nat.reduceEqDiff, Nat.reduceLT, Nat.reduceLeDiff, Int.reduceToNat, Int.reduceEq, Int.reduceLT, Int.reduceLE, Int.toNat_natCast, al_so, al_al, al_pc, al_rc, al_pst, al_rst, w64, List.length_append, List.length_map, Nat.mul_one, beq_self_eq_true, Lim.cs, PathC.cs, RuleC.cs, gdP, gdR]
      repeat' ((first | refine CallO_pure (q1) ?_ | refine NewB_intro0 (fun b => ?_) | (refine NewB_intro (fun b hb => ?_); simp only [ln_cons2, ln_nil, and_true] at hb) | (with_reducible apply And.intro; (focus (first | omega | (simp only [Fact, Bool.not_eq_true', Bool.not_eq_false', decide_eq_true_eq, decide_eq_false_iff_not] at *; omega)))) | ((first | refine gW_sp ?_ | refine condW_sp ?_ | refine pickW_sp ?_); (try refine Sp_n ?_); (first | refine Sp_t (by assumption) ?_ | refine Sp_f (by assumption) ?_ | refine Sp_split (fun h => ?_) (fun h => ?_)) <;> (first | have h' := Fact_lt h | have h' := Fact_nlt h | have h' := Fact_le h | have h' := Fact_nle h | skip) <;> (try (exfalso; omega))) | refine TreeW_intro (by rfl) ?_ | refine TreeW_all ?_ | refine upQ_intro ?_ | refine Two_intro ?_ ?_ | (refine leK_lit ?_; (simp [-List.getD_eq_getElem?_getD, LeL, lk, *]; done)) | (refine leK_dd ?_; (simp [-List.getD_eq_getElem?_getD, LeS, LeL, lk, *]; done)) | (simp only [Fact, Bool.not_eq_true', Bool.not_eq_false', decide_eq_true_eq, decide_eq_false_iff_not] at *; refine leK_dd ?_; (simp [-List.getD_eq_getElem?_getD, LeS, LeL, lk, *]; done)) | (show (_ : Nat) ≤ _; omega)) <;> (try simp (disch := omega) only [*, ↓Ed, Eu, ↓reduceIte, reduceCtorEq, Nat.reduceAdd, Nat.reduceEqDiff, Nat.reduceLT, Nat.reduceLeDiff, Int.reduceToNat, Int.reduceEq, Int.reduceLT, Int.reduceLE, Int.toNat_natCast, al_so, al_al, al_pc, al_rc, al_pst, al_rst, w64, List.length_append, List.length_map, Nat.mul_one, beq_self_eq_true, Lim.cs, PathC.cs, RuleC.cs, gdP, gdR]))
      exact Round_lit (k + 1) ⟨Le_lit (by simp [LeL, lk]), ⟨by omega, g5⟩, by omega⟩
  have f11 : Fact (decide ((k : Int) < c.rs.length) = false) := by simp only [Fact, Bool.not_eq_true', Bool.not_eq_false', decide_eq_true_eq, decide_eq_false_iff_not]; omega
  have HR : rulesQ c.rs := fun j hj => g2 j (by omega)
  rw [confMay_t (HQ HP HR)]
  clear g2 HR
  simp (disch := omega) only [h1, h2, ↓Ed, Eu, ↓reduceIte, reduceCtorEq, Nat.reduceAdd, Nat.reduceEqDiff, Nat.reduceLT, Nat.reduceLeDiff, Int.reduceToNat, Int.reduceEq, Int.reduceLT, Int.reduceLE, Int.toNat_natCast, al_so, al_al, al_pc, al_rc, al_pst, al_rst, w64, List.length_append, List.length_map, Nat.mul_one, beq_self_eq_true, Lim.cs, PathC.cs, RuleC.cs, gdP, gdR]
  repeat' ((first | refine NewB_intro0 (fun b => ?_) | (refine NewB_intro (fun b hb => ?_); simp only [ln_cons2, ln_nil, and_true] at hb) | (with_reducible apply And.intro; (focus (first | omega | (simp only [Fact, Bool.not_eq_true', Bool.not_eq_false', decide_eq_true_eq, decide_eq_false_iff_not] at *; omega)))) | ((first | refine gW_sp ?_ | refine condW_sp ?_ | refine pickW_sp ?_); (try refine Sp_n ?_); (first | refine Sp_t (by assumption) ?_ | refine Sp_f (by assumption) ?_ | refine Sp_split (fun h => ?_) (fun h => ?_)) <;> (first | have h' := Fact_lt h | have h' := Fact_nlt h | have h' := Fact_le h | have h' := Fact_nle h | skip) <;> (try (exfalso; omega))) | refine TreeW_intro (by rfl) ?_ | refine TreeW_all ?_ | refine upQ_intro ?_ | refine Two_intro ?_ ?_ | (refine leK_lit ?_; (simp [-List.getD_eq_getElem?_getD, LeL, lk, *]; done)) | (refine leK_dd ?_; (simp [-List.getD_eq_getElem?_getD, LeS, LeL, lk, *]; done)) | (simp only [Fact, Bool.not_eq_true', Bool.not_eq_false', decide_eq_true_eq, decide_eq_false_iff_not] at *; refine leK_dd ?_; (simp [-List.getD_eq_getElem?_getD, LeS, LeL, lk, *]; done)) | (show (_ : Nat) ≤ _; omega)) <;> (try simp (disch := omega) only [*, ↓Ed, Eu, ↓reduceIte, reduceCtorEq, Nat.reduceAdd, Nat.reduceEqDiff, Nat.reduceLT, Nat.reduceLeDiff, Int.reduceToNat, Int.reduceEq, Int.reduceLT, Int.reduceLE, Int.toNat_natCast, al_so, al_al, al_pc, al_rc, al_pst, al_rst, w64, List.length_append, List.length_map, Nat.mul_one, beq_self_eq_true, Lim.cs, PathC.cs, RuleC.cs, gdP, gdR]))
end Go.Proofs.YtbjmcmgekcmbpaaGreatDoor

/- plain laws: the library's pieces are the pieces -/
namespace Go.Proofs.YtbjmcmgekcmbpaaGreatDoor
set_option linter.all false
open Go
set_option maxRecDepth 100000
theorem splitK_sp : ∀ (n : Nat) (s : List UInt8), s.length ≤ n → ∀ k, s.count 47 ≤ k → Lib.splitK [47] 0 k s = sp s := by
  intro n
  induction n with
  | zero =>
    intro s hs k hk
    obtain rfl := List.eq_nil_of_length_eq_zero (by omega : s.length = 0)
    cases k <;> rfl
  | succ n ih =>
    intro s hs k hk
    rcases Lib.index_spec s [47] with ⟨h1, h2⟩ | ⟨i, h1, h2, h3, h4⟩
    · have hn : 47 ∉ s := by
        intro hm
        obtain ⟨j, hj, e⟩ := List.getElem_of_mem hm
        have := h2 j (by omega)
        rw [occ1.2 ⟨hj, by rw [List.getD, List.getElem?_eq_getElem hj]; exact e⟩] at this
        cases this
      rw [sp_none hn]
      cases k with
      | zero => rfl
      | succ k => rw [Lib.splitK, h1]; rfl
    · obtain ⟨hi, h47⟩ := occ1.1 h3
      have hn : 47 ∉ s.take i := by
        intro hm
        obtain ⟨j, hj, e⟩ := List.getElem_of_mem hm
        rw [List.length_take] at hj
        have hj' : j < s.length := by omega
        have hf := h4 j (by omega)
        rw [occ1.2 ⟨hj', by rw [List.getD, List.getElem?_eq_getElem hj']; simpa using e⟩] at hf
        cases hf
      have he : s = s.take i ++ 47 :: s.drop (i + 1) := by
        have := List.take_append_drop i s
        rw [List.drop_eq_getElem_cons hi] at this
        rw [List.getD, List.getElem?_eq_getElem hi] at h47
        simp only [Option.getD_some] at h47
        rw [h47] at this
        exact this.symm
      have hc : s.count 47 = 1 + (s.drop (i + 1)).count 47 := by
        conv => lhs; rw [he]
        rw [List.count_append, List.count_eq_zero.2 hn, List.count_cons_self]; omega
      cases k with
      | zero => omega
      | succ k =>
        rw [Lib.splitK, h1, if_neg (by simp)]
        have := ih (s.drop (i + 1)) (by rw [List.length_drop]; omega) k (by omega)
        conv => rhs; rw [he, sp_cut hn]
        simp [this]
theorem pieces_sp (s : List UInt8) : pieces s = sp s := by
  unfold pieces
  exact splitK_sp s.length s (by omega) _ (by rw [← Lib.count_one]; exact Nat.le_refl _)
open Classical in
/-- What a text is the name of: unlike texts' names are unlike, so it is one or none. -/
noncomputable def readP (s : List UInt8) : Int × List UInt8 × Int × Int × Int :=
  if h : ∃ x : Int × List UInt8 × Int × Int, OfQ s x.1 x.2.1 x.2.2.1 x.2.2.2 then (h.choose.1, h.choose.2.1, h.choose.2.2.1, h.choose.2.2.2, 0) else (0, [], 0, 0, 3)
theorem readP_of {s k p c q} (h : OfQ s k p c q) : readP s = (k, p, c, q, 0) := by
  have hx : ∃ x : Int × List UInt8 × Int × Int, OfQ s x.1 x.2.1 x.2.2.1 x.2.2.2 := ⟨(k, p, c, q), h⟩
  unfold readP
  rw [dif_pos hx]
  obtain ⟨e1, e2, e3, e4⟩ := hx.choose_spec.inj h
  rw [e1, e2, e3, e4]
theorem readP_no {s} (h : ∀ k p c q, ¬ OfQ s k p c q) : readP s = (0, [], 0, 0, 3) := by
  unfold readP
  rw [dif_neg (fun ⟨x, hx⟩ => h _ _ _ _ hx)]
theorem OfQ.eq {s k p c q} (h : OfQ s k p c q) : ofP k p c q = s := by
  have hm : ∀ {p : List UInt8} {c : Int}, nameQ p → (0 ≤ c ∧ c ≤ 999) → mayP p c = true := fun hp hc => by simp [mayP, nameP_iff.2 hp, hc.1, hc.2]
  cases h with
  | num hk hp hc hq =>
    unfold ofP
    rw [if_neg (by simp [hm hp hc, wordP_in (show 1 ≤ k ∧ k ≤ 7 by omega)]), if_pos hk, if_pos hq]
    simp [baseP]
  | base hk hp hc =>
    unfold ofP
    rw [if_neg (by simp [hm hp hc, wordP_in (show 1 ≤ k ∧ k ≤ 7 by omega)]), if_neg (by omega), if_pos rfl]
    simp [baseP]
theorem chn_pre (x : List UInt8) : Lib.hasPrefix (chn ++ x) chn = true ∧ Lib.trimPrefix (chn ++ x) chn = x := by
  have h : Lib.hasPrefix (chn ++ x) chn = true := by rw [pre_iff]; simp [chn]
  refine ⟨h, ?_⟩
  unfold Lib.trimPrefix
  rw [if_pos h]
  simp [chn]
theorem end_of {p : List UInt8} {c : Int} (hp : nameQ p) (hc : 0 ≤ c ∧ c ≤ 999) : endN (chn ++ Lib.itoa c) = c ∧ endP p (chn ++ Lib.itoa c) = true := by
  have h1 := chn_pre (Lib.itoa c)
  have e : numP (Lib.itoa c) = (c, 0) := by
    rw [itoa_dig hc.1, num_dig (by omega)]
    simp; omega
  have hn : endN (chn ++ Lib.itoa c) = c := by unfold endN; rw [h1.2, e]
  refine ⟨hn, ?_⟩
  unfold endP endOk
  rw [hn, h1.1, h1.2, e]
  simp [mayP, nameP_iff.2 hp, hc.1, hc.2]
theorem num_itoa {q : Int} (h : 0 ≤ q ∧ q ≤ 72057594037927935) : numP (Lib.itoa q) = (q, 0) := by
  rw [itoa_dig h.1, num_dig (by omega)]
  simp; omega
end Go.Proofs.YtbjmcmgekcmbpaaGreatDoor
