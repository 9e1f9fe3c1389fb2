import Derived.Test.YtbjmcmgekcmbpabDoorK16
import Derived.Test.YtbjmcmgekcmbpabDoorK17
import Derived.Test.YtbjmcmgekcmbpabDoorK18
import Derived.Test.YtbjmcmgekcmbpabDoorK7
import Derived.Carry
import Derived.ChangeSame
import Derived.Deep.Slices
import Derived.Below
/- chapter 21: the document's words, lines, numbers -/
namespace Go.Proofs.YtbjmcmgekcmbpabDoor
set_option linter.all false
open Go.RowKit
set_option maxRecDepth 100000
theorem nilq (s : List UInt8) : (s = ([] : List UInt8)) = (s.length = 0) := by simp [List.length_eq_zero_iff]
theorem drop_cons {s : List UInt8} {i : Nat} (h : i < s.length) : s.drop i = s.getD i 0 :: s.drop (i + 1) := by
  rw [List.drop_eq_getElem_cons h, List.getD, List.getElem?_eq_getElem h]; rfl
theorem nh_end {s : List UInt8} {i : Nat} (h : s.length ≤ i) : noHash (s.drop i) = [] := by rw [List.drop_of_length_le h]; rfl
theorem nh_hash {s : List UInt8} {i : Nat} (h : i < s.length) (hc : s.getD i 0 = 35) : noHash (s.drop i) = [] := by
  rw [drop_cons h, hc]; rfl
theorem nh_step {s : List UInt8} {i : Nat} (h : i < s.length) (hc : s.getD i 0 ≠ 35) : noHash (s.drop i) = s.getD i 0 :: noHash (s.drop (i + 1)) := by
  rw [drop_cons h]
  unfold noHash
  rw [List.takeWhile_cons, if_pos (by simpa using hc)]
theorem u8k {a : UInt8} (b : UInt8) {n : Nat} (hb : b.toNat = n) : ((a.toNat : Int) = (n : Int)) ↔ a = b := by
  rw [Int.ofNat_inj, ← hb, UInt8.toNat_inj]
theorem u35 {c : UInt8} : ((c.toNat : Int) = 35) ↔ c = 35 := u8k 35 rfl
theorem u32 {c : UInt8} : ((c.toNat : Int) = 32) ↔ c = 32 := u8k 32 rfl
theorem u9 {c : UInt8} : ((c.toNat : Int) = 9) ↔ c = 9 := u8k 9 rfl
theorem u10 {c : UInt8} : ((c.toNat : Int) = 10) ↔ c = 10 := u8k 10 rfl
theorem take1 {s : List UInt8} {i : Nat} (h : i < s.length) : (s.take (i + 1)).drop i = [s.getD i 0] := by
  rw [List.drop_take, drop_cons h]; simp
theorem w_end {s cur : List UInt8} {o R : List (List UInt8)} {i : Nat} (h : o ++ wgo cur (noHash (s.drop i)) = R) (hn : noHash (s.drop i) = []) : (cur.length = 0 → o = R) ∧ (cur.length ≠ 0 → o ++ [cur] = R) := by
  rw [hn, wgo] at h
  constructor
  · intro e
    rw [if_pos (List.length_eq_zero_iff.1 e)] at h
    simpa using h
  · intro e
    rw [if_neg (fun g => e (List.length_eq_zero_iff.2 g))] at h
    exact h
theorem w_blk {s cur : List UInt8} {o R : List (List UInt8)} {i : Nat} (h : o ++ wgo cur (noHash (s.drop i)) = R) (hi : i < s.length) (hc : s.getD i 0 ≠ 35) (hb : blk (s.getD i 0) = true) :
    (cur.length = 0 → o ++ wgo [] (noHash (s.drop (i + 1))) = R) ∧ (cur.length ≠ 0 → (o ++ [cur]) ++ wgo [] (noHash (s.drop (i + 1))) = R) := by
  rw [nh_step hi hc, wgo, if_pos hb] at h
  constructor
  · intro e
    rw [if_pos (List.length_eq_zero_iff.1 e)] at h
    exact h
  · intro e
    rw [if_neg (fun g => e (List.length_eq_zero_iff.2 g))] at h
    rw [← h]; simp
theorem w_chr {s cur : List UInt8} {o R : List (List UInt8)} {i : Nat} (h : o ++ wgo cur (noHash (s.drop i)) = R) (hi : i < s.length) (hc : s.getD i 0 ≠ 35) (hb : blk (s.getD i 0) = false) :
    o ++ wgo (cur ++ [s.getD i 0]) (noHash (s.drop (i + 1))) = R := by
  rw [nh_step hi hc, wgo, if_neg (by rw [hb]; decide)] at h
  exact h
theorem blk32 {c : UInt8} (h : c = 32) : blk c = true := by subst h; rfl
theorem blk9 {c : UInt8} (h : c = 9) : blk c = true := by subst h; rfl
theorem blk_no {c : UInt8} (h : c ≠ 32) (h' : c ≠ 9) : blk c = false := by simp [blk, h, h']
/-! lines -/
theorem spx_nl {s : List UInt8} {f i : Nat} (hf : f ≤ i) (hi : i < s.length) (hn : ∀ j, f ≤ j → j < i → s.getD j 0 ≠ 10) (hc : s.getD i 0 = 10) : spx 10 (s.drop f) = (s.take i).drop f :: spx 10 (s.drop (i + 1)) := by
  have e : s.drop f = (s.take i).drop f ++ 10 :: s.drop (i + 1) := by
    rw [← hc, ← drop_cons hi, List.drop_take]
    have : s.drop i = (s.drop f).drop (i - f) := by rw [List.drop_drop]; congr 1; omega
    rw [this, List.take_append_drop]
  rw [e, spx_cut]
  intro g
  obtain ⟨j, hj, e2⟩ := List.getElem_of_mem g
  rw [List.length_drop, List.length_take] at hj
  refine hn (f + j) (by omega) (by omega) ?_
  rw [← e2]
  simp [List.getD, List.getElem?_eq_getElem (show f + j < s.length by omega)]
theorem spx_tail {s : List UInt8} {f i : Nat} (hf : f ≤ i) (hi : s.length ≤ i) (hn : ∀ j, f ≤ j → j < i → s.getD j 0 ≠ 10) : spx 10 (s.drop f) = [s.drop f] := by
  refine spx_none ?_
  intro g
  obtain ⟨j, hj, e2⟩ := List.getElem_of_mem g
  rw [List.length_drop] at hj
  refine hn (f + j) (by omega) (by omega) ?_
  rw [← e2]
  simp [List.getD, List.getElem?_eq_getElem (show f + j < s.length by omega)]
theorem p_Lines (s : List UInt8) (hs : s.length ≤ 8000000) : CP Tryd.prog 11 [.str s] (.sl (some 9) 1 (strs (linesD s))) := by
  have hm : maxLen = 9223372036854775807 := rfl
  refine ok_ligref20_Lines _ _ (by simp) ?_
  simp only [c_ligref20_Lines, ↓Ed, Eu, ↓reduceIte, reduceCtorEq, Nat.reduceAdd, Nat.reduceEqDiff, Nat.reduceLT, Nat.reduceLeDiff, Int.reduceToNat, Int.reduceEq, Int.reduceLT, Int.reduceLE, gdS, w64, w64b, List.length_append, List.length_map, Nat.mul_one, beq_self_eq_true, nilq]
  repeat' ((first | refine NewB_intro0 (fun b => ?_) | (refine NewB_intro (fun b hb => ?_); simp only [ln_cons2, ln_nil, and_true] at hb) | (with_reducible apply And.intro; (focus (first | omega | (simp only [Fact, Bool.not_eq_true', Bool.not_eq_false', decide_eq_true_eq, decide_eq_false_iff_not] at *; omega)))) | ((first | refine gW_sp ?_ | refine condW_sp ?_ | refine pickW_sp ?_); (try refine Sp_n ?_); (first | refine Sp_t (by assumption) ?_ | refine Sp_f (by assumption) ?_ | refine Sp_split (fun h => ?_) (fun h => ?_)) <;> (first | have h' := Fact_lt h | have h' := Fact_nlt h | have h' := Fact_le h | have h' := Fact_nle h | skip) <;> (try (exfalso; omega))) | refine TreeW_intro (by rfl) ?_ | refine TreeW_all ?_ | refine upQ_intro ?_ | refine Two_intro ?_ ?_ | (refine leK_lit ?_; (simp [-List.getD_eq_getElem?_getD, LeL, lk, *]; done)) | (refine leK_dd ?_; (simp [-List.getD_eq_getElem?_getD, LeS, LeL, lk, *]; done)) | (simp only [Fact, Bool.not_eq_true', Bool.not_eq_false', decide_eq_true_eq, decide_eq_false_iff_not] at *; refine leK_dd ?_; (simp [-List.getD_eq_getElem?_getD, LeS, LeL, lk, *]; done)) | (show (_ : Nat) ≤ _; omega)) <;> (try simp (disch := omega) only [*, ↓Ed, Eu, ↓reduceIte, reduceCtorEq, Nat.reduceAdd, Nat.reduceEqDiff, Nat.reduceLT, Nat.reduceLeDiff, Int.reduceToNat, Int.reduceEq, Int.reduceLT, Int.reduceLE, gdS, w64, w64b, List.length_append, List.length_map, Nat.mul_one, beq_self_eq_true, nilq]))
  have h0 : Fact ([] ++ spx 10 (s.drop 0) = spx 10 s ∧ (∀ j, 0 ≤ j → j < 0 → s.getD j 0 ≠ 10) ∧ ([] : List (List UInt8)).length ≤ 0) := ⟨rfl, fun j h1 h2 => by omega, Nat.le_refl _⟩
  refine wpx_loop (fun q : List (List UInt8) × Nat × Nat => ⟨lk [(0, .str s), (3, .sl (some 9) 1 (strs q.1)), (4, .int .i64 (q.2.1 : Int)), (5, .int .i64 (q.2.2 : Int))], lk []⟩) (fun q => (q.2.1 ≤ q.2.2 ∧ q.2.2 ≤ s.length) ∧ Fact (q.1 ++ spx 10 (s.drop q.2.1) = spx 10 s ∧ (∀ j, q.2.1 ≤ j → j < q.2.2 → s.getD j 0 ≠ 10) ∧ q.1.length ≤ q.2.2)) (fun q => s.length - q.2.2) ([], 0, 0) ⟨⟨Nat.le_refl _, Nat.zero_le _⟩, h0⟩ (Le_lit (by simp [LeL, lk])) ?_
  clear h0
  rintro ⟨o, f, i⟩ ⟨⟨g0, g1⟩, g2⟩
  simp only at g0 g1 g2 ⊢
  have g3 : o.length ≤ i := g2.2.2
  simp (disch := omega) only [↓Ed, Eu, ↓reduceIte, reduceCtorEq, Nat.reduceAdd, Nat.reduceEqDiff, Nat.reduceLT, Nat.reduceLeDiff, Int.reduceToNat, Int.reduceEq, Int.reduceLT, Int.reduceLE, gdS, w64, w64b, List.length_append, List.length_map, Nat.mul_one, beq_self_eq_true, nilq]
  repeat' ((first | refine NewB_intro0 (fun b => ?_) | (refine NewB_intro (fun b hb => ?_); simp only [ln_cons2, ln_nil, and_true] at hb) | (with_reducible apply And.intro; (focus (first | omega | (simp only [Fact, Bool.not_eq_true', Bool.not_eq_false', decide_eq_true_eq, decide_eq_false_iff_not] at *; omega)))) | ((first | refine gW_sp ?_ | refine condW_sp ?_ | refine pickW_sp ?_); (try refine Sp_n ?_); (first | refine Sp_t (by assumption) ?_ | refine Sp_f (by assumption) ?_ | refine Sp_split (fun h => ?_) (fun h => ?_)) <;> (first | have h' := Fact_lt h | have h' := Fact_nlt h | have h' := Fact_le h | have h' := Fact_nle h | skip) <;> (try (exfalso; omega))) | refine TreeW_intro (by rfl) ?_ | refine TreeW_all ?_ | refine upQ_intro ?_ | refine Two_intro ?_ ?_ | (refine leK_lit ?_; (simp [-List.getD_eq_getElem?_getD, LeL, lk, *]; done)) | (refine leK_dd ?_; (simp [-List.getD_eq_getElem?_getD, LeS, LeL, lk, *]; done)) | (simp only [Fact, Bool.not_eq_true', Bool.not_eq_false', decide_eq_true_eq, decide_eq_false_iff_not] at *; refine leK_dd ?_; (simp [-List.getD_eq_getElem?_getD, LeS, LeL, lk, *]; done)) | (show (_ : Nat) ≤ _; omega)) <;> (try simp (disch := omega) only [*, ↓Ed, Eu, ↓reduceIte, reduceCtorEq, Nat.reduceAdd, Nat.reduceEqDiff, Nat.reduceLT, Nat.reduceLeDiff, Int.reduceToNat, Int.reduceEq, Int.reduceLT, Int.reduceLE, gdS, w64, w64b, List.length_append, List.length_map, Nat.mul_one, beq_self_eq_true, nilq]))
  all_goals simp only [Fact, Bool.not_eq_true', Bool.not_eq_false', decide_eq_true_eq, decide_eq_false_iff_not, u10] at *
  · have e := spx_nl g0 (by omega) g2.2.1 h
    rw [e] at g2
    exact Round_lit (show List (List UInt8) × Nat × Nat from (o ++ [(s.take i).drop f], i + 1, i + 1)) ⟨Le_lit (by simp [LeL, lk]), ⟨⟨Nat.le_refl _, by simp only; omega⟩, by rw [← g2.1]; simp, fun j h1 h2 => absurd h1 (by simp only at h2 ⊢; omega), by simp; omega⟩, by simp only; omega⟩
  · exact Round_lit (show List (List UInt8) × Nat × Nat from (o, f, i + 1)) ⟨Le_lit (by simp [LeL, lk]), ⟨⟨by simp only; omega, by simp only; omega⟩, g2.1, fun j h1 h2 => by
      by_cases e : j = i
      · subst e; exact h
      · exact g2.2.1 j h1 (by simp only at h2; omega), by simp only; omega⟩, by simp only; omega⟩
  · have e := spx_tail g0 (by omega) g2.2.1
    rw [e] at g2
    have hne : s.drop f ≠ [] := by
      intro g
      have := congrArg List.length g
      simp at this; omega
    rw [linesD_out g2.1.symm, if_neg hne, List.take_length]
    simp [strs]
  · have e := spx_tail g0 (by omega) g2.2.1
    rw [e] at g2
    rw [linesD_out g2.1.symm, if_pos (List.drop_of_length_le (by omega))]
/-! numbers -/
def okN (l : List (List UInt8)) : Bool := l.all fun w => decide ((numP w).2 = 0)
def numsR (l : List (List UInt8)) : List Int := l.map fun w => (numP w).1
abbrev intsC (l : List Int) : List (List AV) := l.map fun n => [AV.int .i64 n]
theorem okN_bad {l : List (List UInt8)} {k : Nat} (hk : k < l.length) (h : (numP (l.getD k [])).2 ≠ 0) : okN l = false := by
  unfold okN
  rw [List.all_eq_false]
  refine ⟨l.getD k [], ?_, by simpa using h⟩
  rw [List.getD, List.getElem?_eq_getElem hk]; exact List.getElem_mem hk
theorem okN_all {l : List (List UInt8)} (h : ∀ j, j < l.length → (numP (l.getD j [])).2 = 0) : okN l = true := by
  unfold okN
  rw [List.all_eq_true]
  intro x hx
  obtain ⟨j, hj, rfl⟩ := List.getElem_of_mem hx
  have := h j hj
  rw [List.getD, List.getElem?_eq_getElem hj] at this
  exact decide_eq_true this
theorem numsR_take {l : List (List UInt8)} {k : Nat} (hk : k < l.length) : numsR (l.take (k + 1)) = numsR (l.take k) ++ [(numP (l.getD k [])).1] := by
  unfold numsR
  rw [List.take_succ_eq_append_getElem hk, List.map_append]
  congr 1
  simp [List.getD, List.getElem?_eq_getElem hk]
end Go.Proofs.YtbjmcmgekcmbpabDoor

/- chapter 21: ConfBack, ConfNotes -/
namespace Go.Proofs.YtbjmcmgekcmbpabDoor
set_option linter.all false
open Go.RowKit
set_option maxRecDepth 100000
abbrev sps (c : Conf) : AV := .sl none 5 (pths c.ps)
abbrev srs (c : Conf) : AV := .sl none 2 (rls c.rs)
abbrev Conf.cs (c : Conf) : List AV := cfX c (sps c) (srs c)
theorem printC_t {c : Conf} (h : confQ c) : printC c = (textC c, 0) := by unfold printC; rw [confMay_t h, if_pos rfl]
theorem printC_f {c : Conf} (h : ¬ confQ c) : printC c = ([], 1) := by unfold printC; rw [confMay_f h, if_neg (by decide)]
theorem p_ConfBack (c : Conf) (l1 : c.ps.length ≤ maxLen) (l2 : c.rs.length ≤ maxLen) : CP Tryd.prog 3 [.agg (cfX c (sps c) (srs c))] (.bool true) := by
  have hm : maxLen = 9223372036854775807 := rfl
  have hL := p_LightConf c (sps c) (srs c) rfl rfl l1 l2
  refine ok_liglaw21_ConfBack _ _ (by simp) ?_
  cases hl : lightC c with
  | false =>
    rw [hl] at hL
    clear hl
    simp only [c_liglaw21_ConfBack, ↓Ed, Eu, ↓reduceIte, reduceCtorEq, Nat.reduceAdd, Nat.reduceEqDiff, Nat.reduceLT, Nat.reduceLeDiff, Int.reduceToNat, Int.reduceEq, Int.reduceLT, Int.reduceLE, gdS, al_so, al_al, al_pc, al_rc, al_pst, al_rst, so_pst, so_rst, w64, List.length_append, List.length_map, Nat.mul_one, beq_self_eq_true, u10, List.length_cons, List.length_nil, Nat.reduceMul]
    repeat' ((first | refine CallO_pure (p_cfirst) ?_ | refine CallO_pure (hL) ?_ | refine NewB_intro0 (fun b => ?_) | (refine NewB_intro (fun b hb => ?_); simp only [ln_cons2, ln_nil, and_true] at hb) | (with_reducible apply And.intro; (focus (first | omega | (simp only [Fact, Bool.not_eq_true', Bool.not_eq_false', decide_eq_true_eq, decide_eq_false_iff_not] at *; omega)))) | ((first | refine gW_sp ?_ | refine condW_sp ?_ | refine pickW_sp ?_); (try refine Sp_n ?_); (first | refine Sp_t (by assumption) ?_ | refine Sp_f (by assumption) ?_ | refine Sp_split (fun h => ?_) (fun h => ?_)) <;> (first | have h' := Fact_lt h | have h' := Fact_nlt h | have h' := Fact_le h | have h' := Fact_nle h | skip) <;> (try (exfalso; omega))) | refine TreeW_intro (by rfl) ?_ | refine TreeW_all ?_ | refine upQ_intro ?_ | refine Two_intro ?_ ?_ | (refine leK_lit ?_; (simp [-List.getD_eq_getElem?_getD, LeL, lk, *]; done)) | (refine leK_dd ?_; (simp [-List.getD_eq_getElem?_getD, LeS, LeL, lk, *]; done)) | (simp only [Fact, Bool.not_eq_true', Bool.not_eq_false', decide_eq_true_eq, decide_eq_false_iff_not] at *; refine leK_dd ?_; (simp [-List.getD_eq_getElem?_getD, LeS, LeL, lk, *]; done)) | (show (_ : Nat) ≤ _; omega)) <;> (try simp (disch := omega) only [*, ↓Ed, Eu, ↓reduceIte, reduceCtorEq, Nat.reduceAdd, Nat.reduceEqDiff, Nat.reduceLT, Nat.reduceLeDiff, Int.reduceToNat, Int.reduceEq, Int.reduceLT, Int.reduceLE, gdS, al_so, al_al, al_pc, al_rc, al_pst, al_rst, so_pst, so_rst, w64, List.length_append, List.length_map, Nat.mul_one, beq_self_eq_true, u10, List.length_cons, List.length_nil, Nat.reduceMul]))
  | true =>
  rw [hl] at hL
  obtain ⟨b1, b2, b3, b4, b5, b6⟩ := light_t hl
  have hM := p_cMay c (sps c) (srs c) rfl rfl l1 l2 (by omega) (by omega) (fun i => ⟨Nat.le_trans (b5 i).1 (by omega), Nat.le_trans (b5 i).2 (by omega)⟩) (fun i => Nat.le_trans (b6 i) (by omega))
  have hP := p_cPrint c (sps c) (srs c) rfl rfl l1 l2 (by omega) (by omega) (fun i => ⟨Nat.le_trans (b5 i).1 (by omega), Nat.le_trans (b5 i).2 (by omega)⟩) (fun i => Nat.le_trans (b6 i) (by omega))
  clear hl b1 b2 b3 b4 b5 b6
  by_cases hq : confQ c
  · rw [confMay_t hq] at hM
    rw [printC_t hq] at hP
    have hPa := p_cParse (textC c) (by have := textC_len hq; omega)
    rw [conf_back hq] at hPa
    have hS := p_Same c c (sps c) (srs c) (pst c.ps) (rst c.rs) rfl rfl (al_pst _) (al_rst _) l1 l2 l1 l2
    rw [decide_eq_true rfl] at hS
    clear hq
    simp only [c_liglaw21_ConfBack, ↓Ed, Eu, ↓reduceIte, reduceCtorEq, Nat.reduceAdd, Nat.reduceEqDiff, Nat.reduceLT, Nat.reduceLeDiff, Int.reduceToNat, Int.reduceEq, Int.reduceLT, Int.reduceLE, gdS, al_so, al_al, al_pc, al_rc, al_pst, al_rst, so_pst, so_rst, w64, List.length_append, List.length_map, Nat.mul_one, beq_self_eq_true, u10, List.length_cons, List.length_nil, Nat.reduceMul]
    repeat' ((first | refine CallO_pure (p_cfirst) ?_ | refine CallO_pure (hL) ?_ | refine CallO_pure (hM) ?_ | refine CallO_pure (hP) ?_ | refine CallO_pure (hPa) ?_ | refine CallO_pure (hS) ?_ | refine NewB_intro0 (fun b => ?_) | (refine NewB_intro (fun b hb => ?_); simp only [ln_cons2, ln_nil, and_true] at hb) | (with_reducible apply And.intro; (focus (first | omega | (simp only [Fact, Bool.not_eq_true', Bool.not_eq_false', decide_eq_true_eq, decide_eq_false_iff_not] at *; omega)))) | ((first | refine gW_sp ?_ | refine condW_sp ?_ | refine pickW_sp ?_); (try refine Sp_n ?_); (first | refine Sp_t (by assumption) ?_ | refine Sp_f (by assumption) ?_ | refine Sp_split (fun h => ?_) (fun h => ?_)) <;> (first | have h' := Fact_lt h | have h' := Fact_nlt h | have h' := Fact_le h | have h' := Fact_nle h | skip) <;> (try (exfalso; omega))) | refine TreeW_intro (by rfl) ?_ | refine TreeW_all ?_ | refine upQ_intro ?_ | refine Two_intro ?_ ?_ | (refine leK_lit ?_; (simp [-List.getD_eq_getElem?_getD, LeL, lk, *]; done)) | (refine leK_dd ?_; (simp [-List.getD_eq_getElem?_getD, LeS, LeL, lk, *]; done)) | (simp only [Fact, Bool.not_eq_true', Bool.not_eq_false', decide_eq_true_eq, decide_eq_false_iff_not] at *; refine leK_dd ?_; (simp [-List.getD_eq_getElem?_getD, LeS, LeL, lk, *]; done)) | (show (_ : Nat) ≤ _; omega)) <;> (try simp (disch := omega) only [*, ↓Ed, Eu, ↓reduceIte, reduceCtorEq, Nat.reduceAdd, Nat.reduceEqDiff, Nat.reduceLT, Nat.reduceLeDiff, Int.reduceToNat, Int.reduceEq, Int.reduceLT, Int.reduceLE, gdS, al_so, al_al, al_pc, al_rc, al_pst, al_rst, so_pst, so_rst, w64, List.length_append, List.length_map, Nat.mul_one, beq_self_eq_true, u10, List.length_cons, List.length_nil, Nat.reduceMul]))
  · rw [confMay_f hq] at hM
    rw [printC_f hq] at hP
    clear hq
    simp only [c_liglaw21_ConfBack, ↓Ed, Eu, ↓reduceIte, reduceCtorEq, Nat.reduceAdd, Nat.reduceEqDiff, Nat.reduceLT, Nat.reduceLeDiff, Int.reduceToNat, Int.reduceEq, Int.reduceLT, Int.reduceLE, gdS, al_so, al_al, al_pc, al_rc, al_pst, al_rst, so_pst, so_rst, w64, List.length_append, List.length_map, Nat.mul_one, beq_self_eq_true, u10, List.length_cons, List.length_nil, Nat.reduceMul]
    repeat' ((first | refine CallO_pure (p_cfirst) ?_ | refine CallO_pure (hL) ?_ | refine CallO_pure (hM) ?_ | refine CallO_pure (hP) ?_ | refine NewB_intro0 (fun b => ?_) | (refine NewB_intro (fun b hb => ?_); simp only [ln_cons2, ln_nil, and_true] at hb) | (with_reducible apply And.intro; (focus (first | omega | (simp only [Fact, Bool.not_eq_true', Bool.not_eq_false', decide_eq_true_eq, decide_eq_false_iff_not] at *; omega)))) | ((first | refine gW_sp ?_ | refine condW_sp ?_ | refine pickW_sp ?_); (try refine Sp_n ?_); (first | refine Sp_t (by assumption) ?_ | refine Sp_f (by assumption) ?_ | refine Sp_split (fun h => ?_) (fun h => ?_)) <;> (first | have h' := Fact_lt h | have h' := Fact_nlt h | have h' := Fact_le h | have h' := Fact_nle h | skip) <;> (try (exfalso; omega))) | refine TreeW_intro (by rfl) ?_ | refine TreeW_all ?_ | refine upQ_intro ?_ | refine Two_intro ?_ ?_ | (refine leK_lit ?_; (simp [-List.getD_eq_getElem?_getD, LeL, lk, *]; done)) | (refine leK_dd ?_; (simp [-List.getD_eq_getElem?_getD, LeS, LeL, lk, *]; done)) | (simp only [Fact, Bool.not_eq_true', Bool.not_eq_false', decide_eq_true_eq, decide_eq_false_iff_not] at *; refine leK_dd ?_; (simp [-List.getD_eq_getElem?_getD, LeS, LeL, lk, *]; done)) | (show (_ : Nat) ≤ _; omega)) <;> (try simp (disch := omega) only [*, ↓Ed, Eu, ↓reduceIte, reduceCtorEq, Nat.reduceAdd, Nat.reduceEqDiff, Nat.reduceLT, Nat.reduceLeDiff, Int.reduceToNat, Int.reduceEq, Int.reduceLT, Int.reduceLE, gdS, al_so, al_al, al_pc, al_rc, al_pst, al_rst, so_pst, so_rst, w64, List.length_append, List.length_map, Nat.mul_one, beq_self_eq_true, u10, List.length_cons, List.length_nil, Nat.reduceMul]))
set_option maxHeartbeats 4000000 in
theorem p_ConfNotes (c : Conf) (note : List UInt8) (n : Int) (l1 : c.ps.length ≤ maxLen) (l2 : c.rs.length ≤ maxLen) : CP Tryd.prog 4 [.agg (cfX c (sps c) (srs c)), .str note, .int .i64 n] (.bool true) := by
  have hm : maxLen = 9223372036854775807 := rfl
  have hL := p_LightConf c (sps c) (srs c) rfl rfl l1 l2
  refine ok_liglaw21_ConfNotes _ _ (by simp) ?_
  cases hl : lightC c with
  | false =>
    rw [hl] at hL
    clear hl
    simp only [c_liglaw21_ConfNotes, ↓Ed, Eu, ↓reduceIte, reduceCtorEq, Nat.reduceAdd, Nat.reduceEqDiff, Nat.reduceLT, Nat.reduceLeDiff, Int.reduceToNat, Int.reduceEq, Int.reduceLT, Int.reduceLE, gdS, al_so, al_al, al_pc, al_rc, al_pst, al_rst, so_pst, so_rst, w64, List.length_append, List.length_map, Nat.mul_one, beq_self_eq_true, u10, List.length_cons, List.length_nil, Nat.reduceMul]
    repeat' ((first | refine CallO_pure (p_cfirst) ?_ | refine CallO_pure (hL) ?_ | refine NewB_intro0 (fun b => ?_) | (refine NewB_intro (fun b hb => ?_); simp only [ln_cons2, ln_nil, and_true] at hb) | (with_reducible apply And.intro; (focus (first | omega | (simp only [Fact, Bool.not_eq_true', Bool.not_eq_false', decide_eq_true_eq, decide_eq_false_iff_not] at *; omega)))) | ((first | refine gW_sp ?_ | refine condW_sp ?_ | refine pickW_sp ?_); (try refine Sp_n ?_); (first | refine Sp_t (by assumption) ?_ | refine Sp_f (by assumption) ?_ | refine Sp_split (fun h => ?_) (fun h => ?_)) <;> (first | have h' := Fact_lt h | have h' := Fact_nlt h | have h' := Fact_le h | have h' := Fact_nle h | skip) <;> (try (exfalso; omega))) | refine TreeW_intro (by rfl) ?_ | refine TreeW_all ?_ | refine upQ_intro ?_ | refine Two_intro ?_ ?_ | (refine leK_lit ?_; (simp [-List.getD_eq_getElem?_getD, LeL, lk, *]; done)) | (refine leK_dd ?_; (simp [-List.getD_eq_getElem?_getD, LeS, LeL, lk, *]; done)) | (simp only [Fact, Bool.not_eq_true', Bool.not_eq_false', decide_eq_true_eq, decide_eq_false_iff_not] at *; refine leK_dd ?_; (simp [-List.getD_eq_getElem?_getD, LeS, LeL, lk, *]; done)) | (show (_ : Nat) ≤ _; omega)) <;> (try simp (disch := omega) only [*, ↓Ed, Eu, ↓reduceIte, reduceCtorEq, Nat.reduceAdd, Nat.reduceEqDiff, Nat.reduceLT, Nat.reduceLeDiff, Int.reduceToNat, Int.reduceEq, Int.reduceLT, Int.reduceLE, gdS, al_so, al_al, al_pc, al_rc, al_pst, al_rst, so_pst, so_rst, w64, List.length_append, List.length_map, Nat.mul_one, beq_self_eq_true, u10, List.length_cons, List.length_nil, Nat.reduceMul]))
  | true =>
  rw [hl] at hL
  obtain ⟨b1, b2, b3, b4, b5, b6⟩ := light_t hl
  have hP := p_cPrint c (sps c) (srs c) rfl rfl l1 l2 (by omega) (by omega) (fun i => ⟨Nat.le_trans (b5 i).1 (by omega), Nat.le_trans (b5 i).2 (by omega)⟩) (fun i => Nat.le_trans (b6 i) (by omega))
  clear hl b1 b2 b3 b4 b5 b6
  by_cases hin : note.length ≤ 20 ∧ 0 ≤ n ∧ n ≤ 60
  rotate_left
  · have F : Fact (¬ (note.length ≤ 20 ∧ 0 ≤ n ∧ n ≤ 60)) := hin
    clear hin hP
    simp only [c_liglaw21_ConfNotes, ↓Ed, Eu, ↓reduceIte, reduceCtorEq, Nat.reduceAdd, Nat.reduceEqDiff, Nat.reduceLT, Nat.reduceLeDiff, Int.reduceToNat, Int.reduceEq, Int.reduceLT, Int.reduceLE, gdS, al_so, al_al, al_pc, al_rc, al_pst, al_rst, so_pst, so_rst, w64, List.length_append, List.length_map, Nat.mul_one, beq_self_eq_true, u10, List.length_cons, List.length_nil, Nat.reduceMul]
    repeat' ((first | refine CallO_pure (p_cfirst) ?_ | refine CallO_pure (hL) ?_ | refine NewB_intro0 (fun b => ?_) | (refine NewB_intro (fun b hb => ?_); simp only [ln_cons2, ln_nil, and_true] at hb) | (with_reducible apply And.intro; (focus (first | omega | (simp only [Fact, Bool.not_eq_true', Bool.not_eq_false', decide_eq_true_eq, decide_eq_false_iff_not] at *; omega)))) | ((first | refine gW_sp ?_ | refine condW_sp ?_ | refine pickW_sp ?_); (try refine Sp_n ?_); (first | refine Sp_t (by assumption) ?_ | refine Sp_f (by assumption) ?_ | refine Sp_split (fun h => ?_) (fun h => ?_)) <;> (first | have h' := Fact_lt h | have h' := Fact_nlt h | have h' := Fact_le h | have h' := Fact_nle h | skip) <;> (try (exfalso; omega))) | refine TreeW_intro (by rfl) ?_ | refine TreeW_all ?_ | refine upQ_intro ?_ | refine Two_intro ?_ ?_ | (refine leK_lit ?_; (simp [-List.getD_eq_getElem?_getD, LeL, lk, *]; done)) | (refine leK_dd ?_; (simp [-List.getD_eq_getElem?_getD, LeS, LeL, lk, *]; done)) | (simp only [Fact, Bool.not_eq_true', Bool.not_eq_false', decide_eq_true_eq, decide_eq_false_iff_not] at *; refine leK_dd ?_; (simp [-List.getD_eq_getElem?_getD, LeS, LeL, lk, *]; done)) | (show (_ : Nat) ≤ _; omega)) <;> (try simp (disch := omega) only [*, ↓Ed, Eu, ↓reduceIte, reduceCtorEq, Nat.reduceAdd, Nat.reduceEqDiff, Nat.reduceLT, Nat.reduceLeDiff, Int.reduceToNat, Int.reduceEq, Int.reduceLT, Int.reduceLE, gdS, al_so, al_al, al_pc, al_rc, al_pst, al_rst, so_pst, so_rst, w64, List.length_append, List.length_map, Nat.mul_one, beq_self_eq_true, u10, List.length_cons, List.length_nil, Nat.reduceMul]))
    all_goals (exfalso; simp only [Fact, Bool.not_eq_true', Bool.not_eq_false', decide_eq_true_eq, decide_eq_false_iff_not] at *; omega)
  obtain ⟨hn, hn0, hn60⟩ := hin
  obtain ⟨q, rfl⟩ : ∃ q : Nat, n = q := ⟨n.toNat, by omega⟩
  have f1 : Fact (decide (20 < (note.length : Int)) = false) := by simp only [Fact, Bool.not_eq_true', Bool.not_eq_false', decide_eq_true_eq, decide_eq_false_iff_not]; omega
  have f2 : Fact (decide ((q : Int) < 0) = false) := by simp only [Fact, Bool.not_eq_true', Bool.not_eq_false', decide_eq_true_eq, decide_eq_false_iff_not]; omega
  have f3 : Fact (decide (60 < (q : Int)) = false) := by simp only [Fact, Bool.not_eq_true', Bool.not_eq_false', decide_eq_true_eq, decide_eq_false_iff_not]; omega
  by_cases hq : confQ c
  rotate_left
  · rw [printC_f hq] at hP
    clear hq hn hn0 hn60
    simp only [c_liglaw21_ConfNotes, ↓Ed, Eu, ↓reduceIte, reduceCtorEq, Nat.reduceAdd, Nat.reduceEqDiff, Nat.reduceLT, Nat.reduceLeDiff, Int.reduceToNat, Int.reduceEq, Int.reduceLT, Int.reduceLE, gdS, al_so, al_al, al_pc, al_rc, al_pst, al_rst, so_pst, so_rst, w64, List.length_append, List.length_map, Nat.mul_one, beq_self_eq_true, u10, List.length_cons, List.length_nil, Nat.reduceMul]
    repeat' ((first | refine CallO_pure (p_cfirst) ?_ | refine CallO_pure (hL) ?_ | refine CallO_pure (hP) ?_ | refine NewB_intro0 (fun b => ?_) | (refine NewB_intro (fun b hb => ?_); simp only [ln_cons2, ln_nil, and_true] at hb) | (with_reducible apply And.intro; (focus (first | omega | (simp only [Fact, Bool.not_eq_true', Bool.not_eq_false', decide_eq_true_eq, decide_eq_false_iff_not] at *; omega)))) | ((first | refine gW_sp ?_ | refine condW_sp ?_ | refine pickW_sp ?_); (try refine Sp_n ?_); (first | refine Sp_t (by assumption) ?_ | refine Sp_f (by assumption) ?_ | refine Sp_split (fun h => ?_) (fun h => ?_)) <;> (first | have h' := Fact_lt h | have h' := Fact_nlt h | have h' := Fact_le h | have h' := Fact_nle h | skip) <;> (try (exfalso; omega))) | refine TreeW_intro (by rfl) ?_ | refine TreeW_all ?_ | refine upQ_intro ?_ | refine Two_intro ?_ ?_ | (refine leK_lit ?_; (simp [-List.getD_eq_getElem?_getD, LeL, lk, *]; done)) | (refine leK_dd ?_; (simp [-List.getD_eq_getElem?_getD, LeS, LeL, lk, *]; done)) | (simp only [Fact, Bool.not_eq_true', Bool.not_eq_false', decide_eq_true_eq, decide_eq_false_iff_not] at *; refine leK_dd ?_; (simp [-List.getD_eq_getElem?_getD, LeS, LeL, lk, *]; done)) | (show (_ : Nat) ≤ _; omega)) <;> (try simp (disch := omega) only [*, ↓Ed, Eu, ↓reduceIte, reduceCtorEq, Nat.reduceAdd, Nat.reduceEqDiff, Nat.reduceLT, Nat.reduceLeDiff, Int.reduceToNat, Int.reduceEq, Int.reduceLT, Int.reduceLE, gdS, al_so, al_al, al_pc, al_rc, al_pst, al_rst, so_pst, so_rst, w64, List.length_append, List.length_map, Nat.mul_one, beq_self_eq_true, u10, List.length_cons, List.length_nil, Nat.reduceMul]))
  rw [printC_t hq] at hP
  have hLn := p_Lines (textC c) (by have := textC_len hq; omega)
  rw [lines_text hq] at hLn
  have hPa := fun (h10 : 10 ∉ note) => p_cParse (endL (notedC c note)) (by rw [← note_end]; have := note_len hn (linesC_95 hq) _ (Nat.le_refl _); have := linesC_len hq; omega)
  have hPb := p_cParse (badT (linesC c) q (linesC c).length) (by have := bad_len (n := q) (linesC_95 hq) _ (Nat.le_refl _); have := linesC_len hq; omega)
  have hS := p_Same c c (sps c) (srs c) (pst c.ps) (rst c.rs) rfl rfl (al_pst _) (al_rst _) l1 l2 l1 l2
  rw [decide_eq_true rfl] at hS
  have k1 := linesC_len hq
  have k2 := fun k => note_len (k := k) hn (linesC_95 hq)
  have k3 := fun k => bad_len (n := q) (k := k) (linesC_95 hq)
  have k4 := linesC_95 hq
  have c1 := fun h10 : 10 ∉ note => conf_notes hq h10 hn
  have c2 := fun h : q < (linesC c).length => conf_bad hq h
  have c3 := conf_back hq
  clear hq hn0
  simp only [c_liglaw21_ConfNotes, ↓Ed, Eu, ↓reduceIte, reduceCtorEq, Nat.reduceAdd, Nat.reduceEqDiff, Nat.reduceLT, Nat.reduceLeDiff, Int.reduceToNat, Int.reduceEq, Int.reduceLT, Int.reduceLE, gdS, al_so, al_al, al_pc, al_rc, al_pst, al_rst, so_pst, so_rst, w64, List.length_append, List.length_map, Nat.mul_one, beq_self_eq_true, u10, List.length_cons, List.length_nil, Nat.reduceMul]
  repeat' ((first | refine CallO_pure (p_cfirst) ?_ | refine CallO_pure (hL) ?_ | refine CallO_pure (hP) ?_ | refine NewB_intro0 (fun b => ?_) | (refine NewB_intro (fun b hb => ?_); simp only [ln_cons2, ln_nil, and_true] at hb) | (with_reducible apply And.intro; (focus (first | omega | (simp only [Fact, Bool.not_eq_true', Bool.not_eq_false', decide_eq_true_eq, decide_eq_false_iff_not] at *; omega)))) | ((first | refine gW_sp ?_ | refine condW_sp ?_ | refine pickW_sp ?_); (try refine Sp_n ?_); (first | refine Sp_t (by assumption) ?_ | refine Sp_f (by assumption) ?_ | refine Sp_split (fun h => ?_) (fun h => ?_)) <;> (first | have h' := Fact_lt h | have h' := Fact_nlt h | have h' := Fact_le h | have h' := Fact_nle h | skip) <;> (try (exfalso; omega))) | refine TreeW_intro (by rfl) ?_ | refine TreeW_all ?_ | refine upQ_intro ?_ | refine Two_intro ?_ ?_ | (refine leK_lit ?_; (simp [-List.getD_eq_getElem?_getD, LeL, lk, *]; done)) | (refine leK_dd ?_; (simp [-List.getD_eq_getElem?_getD, LeS, LeL, lk, *]; done)) | (simp only [Fact, Bool.not_eq_true', Bool.not_eq_false', decide_eq_true_eq, decide_eq_false_iff_not] at *; refine leK_dd ?_; (simp [-List.getD_eq_getElem?_getD, LeS, LeL, lk, *]; done)) | (show (_ : Nat) ≤ _; omega)) <;> (try simp (disch := omega) only [*, ↓Ed, Eu, ↓reduceIte, reduceCtorEq, Nat.reduceAdd, Nat.reduceEqDiff, Nat.reduceLT, Nat.reduceLeDiff, Int.reduceToNat, Int.reduceEq, Int.reduceLT, Int.reduceLE, gdS, al_so, al_al, al_pc, al_rc, al_pst, al_rst, so_pst, so_rst, w64, List.length_append, List.length_map, Nat.mul_one, beq_self_eq_true, u10, List.length_cons, List.length_nil, Nat.reduceMul]))
  refine wpx_loop (fun k : Nat => ⟨lk [(1, .str note), (2, .int .i64 q), (3, .ptr b 0), (7, .str (textC c)), (9, .int .i64 (k : Int))], lk [(b, cfX c (sps c) (srs c))]⟩) (fun k => k ≤ note.length ∧ Fact (∀ j, j < k → note.getD j 0 ≠ 10)) (fun k => note.length - k) 0 ⟨by omega, fun j hj => by omega⟩ (Le_lit (by simp [LeL, lk])) ?_
  rintro k ⟨g1, g2⟩
  by_cases hk : k < note.length
  · have f4 : Fact (decide ((k : Int) < note.length) = true) := by simp only [Fact, Bool.not_eq_true', Bool.not_eq_false', decide_eq_true_eq, decide_eq_false_iff_not]; omega
    by_cases h10 : note.getD k 0 = 10
    · have f5 : Fact (decide (note.getD k 0 = 10) = true) := decide_eq_true h10
      clear h10 g2
      simp (disch := omega) only [↓Ed, Eu, ↓reduceIte, reduceCtorEq, Nat.reduceAdd, Nat.reduceEqDiff, Nat.reduceLT, Nat.reduceLeDiff, Int.reduceToNat, Int.reduceEq, Int.reduceLT, Int.reduceLE, gdS, al_so, al_al, al_pc, al_rc, al_pst, al_rst, so_pst, so_rst, w64, List.length_append, List.length_map, Nat.mul_one, beq_self_eq_true, u10, List.length_cons, List.length_nil, Nat.reduceMul]
      repeat' ((first | refine CallO_pure (p_cfirst) ?_ | refine NewB_intro0 (fun b => ?_) | (refine NewB_intro (fun b hb => ?_); simp only [ln_cons2, ln_nil, and_true] at hb) | (with_reducible apply And.intro; (focus (first | omega | (simp only [Fact, Bool.not_eq_true', Bool.not_eq_false', decide_eq_true_eq, decide_eq_false_iff_not] at *; omega)))) | ((first | refine gW_sp ?_ | refine condW_sp ?_ | refine pickW_sp ?_); (try refine Sp_n ?_); (first | refine Sp_t (by assumption) ?_ | refine Sp_f (by assumption) ?_ | refine Sp_split (fun h => ?_) (fun h => ?_)) <;> (first | have h' := Fact_lt h | have h' := Fact_nlt h | have h' := Fact_le h | have h' := Fact_nle h | skip) <;> (try (exfalso; omega))) | refine TreeW_intro (by rfl) ?_ | refine TreeW_all ?_ | refine upQ_intro ?_ | refine Two_intro ?_ ?_ | (refine leK_lit ?_; (simp [-List.getD_eq_getElem?_getD, LeL, lk, *]; done)) | (refine leK_dd ?_; (simp [-List.getD_eq_getElem?_getD, LeS, LeL, lk, *]; done)) | (simp only [Fact, Bool.not_eq_true', Bool.not_eq_false', decide_eq_true_eq, decide_eq_false_iff_not] at *; refine leK_dd ?_; (simp [-List.getD_eq_getElem?_getD, LeS, LeL, lk, *]; done)) | (show (_ : Nat) ≤ _; omega)) <;> (try simp (disch := omega) only [*, ↓Ed, Eu, ↓reduceIte, reduceCtorEq, Nat.reduceAdd, Nat.reduceEqDiff, Nat.reduceLT, Nat.reduceLeDiff, Int.reduceToNat, Int.reduceEq, Int.reduceLT, Int.reduceLE, gdS, al_so, al_al, al_pc, al_rc, al_pst, al_rst, so_pst, so_rst, w64, List.length_append, List.length_map, Nat.mul_one, beq_self_eq_true, u10, List.length_cons, List.length_nil, Nat.reduceMul]))
    · have f5 : Fact (decide (note.getD k 0 = 10) = false) := decide_eq_false h10
      have g3 : Fact (∀ j, j < k + 1 → note.getD j 0 ≠ 10) := fun j hj => by
        by_cases e : j = k
        · subst e; exact h10
        · exact g2 j (by omega)
      clear h10 g2
      simp (disch := omega) only [↓Ed, Eu, ↓reduceIte, reduceCtorEq, Nat.reduceAdd, Nat.reduceEqDiff, Nat.reduceLT, Nat.reduceLeDiff, Int.reduceToNat, Int.reduceEq, Int.reduceLT, Int.reduceLE, gdS, al_so, al_al, al_pc, al_rc, al_pst, al_rst, so_pst, so_rst, w64, List.length_append, List.length_map, Nat.mul_one, beq_self_eq_true, u10, List.length_cons, List.length_nil, Nat.reduceMul]
      repeat' ((first | refine NewB_intro0 (fun b => ?_) | (refine NewB_intro (fun b hb => ?_); simp only [ln_cons2, ln_nil, and_true] at hb) | (with_reducible apply And.intro; (focus (first | omega | (simp only [Fact, Bool.not_eq_true', Bool.not_eq_false', decide_eq_true_eq, decide_eq_false_iff_not] at *; omega)))) | ((first | refine gW_sp ?_ | refine condW_sp ?_ | refine pickW_sp ?_); (try refine Sp_n ?_); (first | refine Sp_t (by assumption) ?_ | refine Sp_f (by assumption) ?_ | refine Sp_split (fun h => ?_) (fun h => ?_)) <;> (first | have h' := Fact_lt h | have h' := Fact_nlt h | have h' := Fact_le h | have h' := Fact_nle h | skip) <;> (try (exfalso; omega))) | refine TreeW_intro (by rfl) ?_ | refine TreeW_all ?_ | refine upQ_intro ?_ | refine Two_intro ?_ ?_ | (refine leK_lit ?_; (simp [-List.getD_eq_getElem?_getD, LeL, lk, *]; done)) | (refine leK_dd ?_; (simp [-List.getD_eq_getElem?_getD, LeS, LeL, lk, *]; done)) | (simp only [Fact, Bool.not_eq_true', Bool.not_eq_false', decide_eq_true_eq, decide_eq_false_iff_not] at *; refine leK_dd ?_; (simp [-List.getD_eq_getElem?_getD, LeS, LeL, lk, *]; done)) | (show (_ : Nat) ≤ _; omega)) <;> (try simp (disch := omega) only [*, ↓Ed, Eu, ↓reduceIte, reduceCtorEq, Nat.reduceAdd, Nat.reduceEqDiff, Nat.reduceLT, Nat.reduceLeDiff, Int.reduceToNat, Int.reduceEq, Int.reduceLT, Int.reduceLE, gdS, al_so, al_al, al_pc, al_rc, al_pst, al_rst, so_pst, so_rst, w64, List.length_append, List.length_map, Nat.mul_one, beq_self_eq_true, u10, List.length_cons, List.length_nil, Nat.reduceMul]))
      exact Round_lit (k + 1) ⟨Le_lit (by simp [LeL, lk]), ⟨by omega, g3⟩, by omega⟩
  have f4 : Fact (decide ((k : Int) < note.length) = false) := by simp only [Fact, Bool.not_eq_true', Bool.not_eq_false', decide_eq_true_eq, decide_eq_false_iff_not]; omega
  have h10 : 10 ∉ note := fun hmem => by
    obtain ⟨j, hj, e⟩ := List.getElem_of_mem hmem
    exact g2 j (by omega) (by rw [List.getD, List.getElem?_eq_getElem hj]; exact e)
  have hPa := hPa h10
  rw [c1 h10] at hPa
  clear g2 h10 c1
  simp (disch := omega) only [↓Ed, Eu, ↓reduceIte, reduceCtorEq, Nat.reduceAdd, Nat.reduceEqDiff, Nat.reduceLT, Nat.reduceLeDiff, Int.reduceToNat, Int.reduceEq, Int.reduceLT, Int.reduceLE, gdS, al_so, al_al, al_pc, al_rc, al_pst, al_rst, so_pst, so_rst, w64, List.length_append, List.length_map, Nat.mul_one, beq_self_eq_true, u10, List.length_cons, List.length_nil, Nat.reduceMul]
  repeat' ((first | refine CallO_pure (hLn) ?_ | refine NewB_intro0 (fun b => ?_) | (refine NewB_intro (fun b hb => ?_); simp only [ln_cons2, ln_nil, and_true] at hb) | (with_reducible apply And.intro; (focus (first | omega | (simp only [Fact, Bool.not_eq_true', Bool.not_eq_false', decide_eq_true_eq, decide_eq_false_iff_not] at *; omega)))) | ((first | refine gW_sp ?_ | refine condW_sp ?_ | refine pickW_sp ?_); (try refine Sp_n ?_); (first | refine Sp_t (by assumption) ?_ | refine Sp_f (by assumption) ?_ | refine Sp_split (fun h => ?_) (fun h => ?_)) <;> (first | have h' := Fact_lt h | have h' := Fact_nlt h | have h' := Fact_le h | have h' := Fact_nle h | skip) <;> (try (exfalso; omega))) | refine TreeW_intro (by rfl) ?_ | refine TreeW_all ?_ | refine upQ_intro ?_ | refine Two_intro ?_ ?_ | (refine leK_lit ?_; (simp [-List.getD_eq_getElem?_getD, LeL, lk, *]; done)) | (refine leK_dd ?_; (simp [-List.getD_eq_getElem?_getD, LeS, LeL, lk, *]; done)) | (simp only [Fact, Bool.not_eq_true', Bool.not_eq_false', decide_eq_true_eq, decide_eq_false_iff_not] at *; refine leK_dd ?_; (simp [-List.getD_eq_getElem?_getD, LeS, LeL, lk, *]; done)) | (show (_ : Nat) ≤ _; omega)) <;> (try simp (disch := omega) only [*, ↓Ed, Eu, ↓reduceIte, reduceCtorEq, Nat.reduceAdd, Nat.reduceEqDiff, Nat.reduceLT, Nat.reduceLeDiff, Int.reduceToNat, Int.reduceEq, Int.reduceLT, Int.reduceLE, gdS, al_so, al_al, al_pc, al_rc, al_pst, al_rst, so_pst, so_rst, w64, List.length_append, List.length_map, Nat.mul_one, beq_self_eq_true, u10, List.length_cons, List.length_nil, Nat.reduceMul]))
  clear f4 g1 hk
  refine wpx_loop (fun k : Nat => ⟨lk [(1, .str note), (2, .int .i64 q), (3, .ptr b 0), (10, .sl (some 9) 1 (strs (linesC c))), (11, .str (noteT (linesC c) note k)), (12, .str (badT (linesC c) q k)), (13, .int .i64 (k : Int))], lk [(b, cfX c (sps c) (srs c))]⟩) (fun k => k ≤ (linesC c).length) (fun k => (linesC c).length - k) 0 (by omega) (Le_lit (by simp [LeL, lk, noteT, badT, endL])) ?_
  intro k g1
  have k2k := k2 k g1
  have k3k := k3 k g1
  by_cases hk : k < (linesC c).length
  · have f4 : Fact (decide ((k : Int) < (linesC c).length) = true) := by simp only [Fact, Bool.not_eq_true', Bool.not_eq_false', decide_eq_true_eq, decide_eq_false_iff_not]; omega
    have k4k := k4 ((linesC c).getD k []) (by rw [List.getD, List.getElem?_eq_getElem hk]; exact List.getElem_mem _)
    have s1 := note_step (note := note) hk
    have s2 := bad_step (n := q) hk
    by_cases e : q = k
    · have f5 : Fact (decide ((k : Int) = q) = true) := by simp only [Fact, Bool.not_eq_true', Bool.not_eq_false', decide_eq_true_eq, decide_eq_false_iff_not]; omega
      rw [if_pos e] at s2
      clear e k2 k3 k4
      simp (disch := omega) only [↓Ed, Eu, ↓reduceIte, reduceCtorEq, Nat.reduceAdd, Nat.reduceEqDiff, Nat.reduceLT, Nat.reduceLeDiff, Int.reduceToNat, Int.reduceEq, Int.reduceLT, Int.reduceLE, gdS, al_so, al_al, al_pc, al_rc, al_pst, al_rst, so_pst, so_rst, w64, List.length_append, List.length_map, Nat.mul_one, beq_self_eq_true, u10, List.length_cons, List.length_nil, Nat.reduceMul]
      repeat' ((first | refine NewB_intro0 (fun b => ?_) | (refine NewB_intro (fun b hb => ?_); simp only [ln_cons2, ln_nil, and_true] at hb) | (with_reducible apply And.intro; (focus (first | omega | (simp only [Fact, Bool.not_eq_true', Bool.not_eq_false', decide_eq_true_eq, decide_eq_false_iff_not] at *; omega)))) | ((first | refine gW_sp ?_ | refine condW_sp ?_ | refine pickW_sp ?_); (try refine Sp_n ?_); (first | refine Sp_t (by assumption) ?_ | refine Sp_f (by assumption) ?_ | refine Sp_split (fun h => ?_) (fun h => ?_)) <;> (first | have h' := Fact_lt h | have h' := Fact_nlt h | have h' := Fact_le h | have h' := Fact_nle h | skip) <;> (try (exfalso; omega))) | refine TreeW_intro (by rfl) ?_ | refine TreeW_all ?_ | refine upQ_intro ?_ | refine Two_intro ?_ ?_ | (refine leK_lit ?_; (simp [-List.getD_eq_getElem?_getD, LeL, lk, *]; done)) | (refine leK_dd ?_; (simp [-List.getD_eq_getElem?_getD, LeS, LeL, lk, *]; done)) | (simp only [Fact, Bool.not_eq_true', Bool.not_eq_false', decide_eq_true_eq, decide_eq_false_iff_not] at *; refine leK_dd ?_; (simp [-List.getD_eq_getElem?_getD, LeS, LeL, lk, *]; done)) | (show (_ : Nat) ≤ _; omega)) <;> (try simp (disch := omega) only [*, ↓Ed, Eu, ↓reduceIte, reduceCtorEq, Nat.reduceAdd, Nat.reduceEqDiff, Nat.reduceLT, Nat.reduceLeDiff, Int.reduceToNat, Int.reduceEq, Int.reduceLT, Int.reduceLE, gdS, al_so, al_al, al_pc, al_rc, al_pst, al_rst, so_pst, so_rst, w64, List.length_append, List.length_map, Nat.mul_one, beq_self_eq_true, u10, List.length_cons, List.length_nil, Nat.reduceMul]))
      exact Round_lit (k + 1) ⟨Le_lit (by simp [-List.getD_eq_getElem?_getD, LeL, lk, s1, s2]), by omega, by omega⟩
    · have f5 : Fact (decide ((k : Int) = q) = false) := by simp only [Fact, Bool.not_eq_true', Bool.not_eq_false', decide_eq_true_eq, decide_eq_false_iff_not]; omega
      rw [if_neg e] at s2
      clear e k2 k3 k4
      simp (disch := omega) only [↓Ed, Eu, ↓reduceIte, reduceCtorEq, Nat.reduceAdd, Nat.reduceEqDiff, Nat.reduceLT, Nat.reduceLeDiff, Int.reduceToNat, Int.reduceEq, Int.reduceLT, Int.reduceLE, gdS, al_so, al_al, al_pc, al_rc, al_pst, al_rst, so_pst, so_rst, w64, List.length_append, List.length_map, Nat.mul_one, beq_self_eq_true, u10, List.length_cons, List.length_nil, Nat.reduceMul]
      repeat' ((first | refine NewB_intro0 (fun b => ?_) | (refine NewB_intro (fun b hb => ?_); simp only [ln_cons2, ln_nil, and_true] at hb) | (with_reducible apply And.intro; (focus (first | omega | (simp only [Fact, Bool.not_eq_true', Bool.not_eq_false', decide_eq_true_eq, decide_eq_false_iff_not] at *; omega)))) | ((first | refine gW_sp ?_ | refine condW_sp ?_ | refine pickW_sp ?_); (try refine Sp_n ?_); (first | refine Sp_t (by assumption) ?_ | refine Sp_f (by assumption) ?_ | refine Sp_split (fun h => ?_) (fun h => ?_)) <;> (first | have h' := Fact_lt h | have h' := Fact_nlt h | have h' := Fact_le h | have h' := Fact_nle h | skip) <;> (try (exfalso; omega))) | refine TreeW_intro (by rfl) ?_ | refine TreeW_all ?_ | refine upQ_intro ?_ | refine Two_intro ?_ ?_ | (refine leK_lit ?_; (simp [-List.getD_eq_getElem?_getD, LeL, lk, *]; done)) | (refine leK_dd ?_; (simp [-List.getD_eq_getElem?_getD, LeS, LeL, lk, *]; done)) | (simp only [Fact, Bool.not_eq_true', Bool.not_eq_false', decide_eq_true_eq, decide_eq_false_iff_not] at *; refine leK_dd ?_; (simp [-List.getD_eq_getElem?_getD, LeS, LeL, lk, *]; done)) | (show (_ : Nat) ≤ _; omega)) <;> (try simp (disch := omega) only [*, ↓Ed, Eu, ↓reduceIte, reduceCtorEq, Nat.reduceAdd, Nat.reduceEqDiff, Nat.reduceLT, Nat.reduceLeDiff, Int.reduceToNat, Int.reduceEq, Int.reduceLT, Int.reduceLE, gdS, al_so, al_al, al_pc, al_rc, al_pst, al_rst, so_pst, so_rst, w64, List.length_append, List.length_map, Nat.mul_one, beq_self_eq_true, u10, List.length_cons, List.length_nil, Nat.reduceMul]))
      exact Round_lit (k + 1) ⟨Le_lit (by simp [-List.getD_eq_getElem?_getD, LeL, lk, s1, s2]), by omega, by omega⟩
  have f4 : Fact (decide ((k : Int) < (linesC c).length) = false) := by simp only [Fact, Bool.not_eq_true', Bool.not_eq_false', decide_eq_true_eq, decide_eq_false_iff_not]; omega
  obtain rfl : k = (linesC c).length := by omega
  rw [note_end]
  by_cases e : q < (linesC c).length
  · have f5 : Fact (decide (((linesC c).length : Int) ≤ q) = false) := by simp only [Fact, Bool.not_eq_true', Bool.not_eq_false', decide_eq_true_eq, decide_eq_false_iff_not]; omega
    rw [bad_end, if_pos e] at hPb
    rw [c2 e] at hPb
    rw [bad_end, if_pos e]
    clear e c2 c3 k2 k3 k4 k2k k3k g1 hk
    simp (disch := omega) only [↓Ed, Eu, ↓reduceIte, reduceCtorEq, Nat.reduceAdd, Nat.reduceEqDiff, Nat.reduceLT, Nat.reduceLeDiff, Int.reduceToNat, Int.reduceEq, Int.reduceLT, Int.reduceLE, gdS, al_so, al_al, al_pc, al_rc, al_pst, al_rst, so_pst, so_rst, w64, List.length_append, List.length_map, Nat.mul_one, beq_self_eq_true, u10, List.length_cons, List.length_nil, Nat.reduceMul]
    repeat' ((first | refine CallO_pure (hPa) ?_ | refine CallO_pure (hPb) ?_ | refine CallO_pure (hS) ?_ | refine NewB_intro0 (fun b => ?_) | (refine NewB_intro (fun b hb => ?_); simp only [ln_cons2, ln_nil, and_true] at hb) | (with_reducible apply And.intro; (focus (first | omega | (simp only [Fact, Bool.not_eq_true', Bool.not_eq_false', decide_eq_true_eq, decide_eq_false_iff_not] at *; omega)))) | ((first | refine gW_sp ?_ | refine condW_sp ?_ | refine pickW_sp ?_); (try refine Sp_n ?_); (first | refine Sp_t (by assumption) ?_ | refine Sp_f (by assumption) ?_ | refine Sp_split (fun h => ?_) (fun h => ?_)) <;> (first | have h' := Fact_lt h | have h' := Fact_nlt h | have h' := Fact_le h | have h' := Fact_nle h | skip) <;> (try (exfalso; omega))) | refine TreeW_intro (by rfl) ?_ | refine TreeW_all ?_ | refine upQ_intro ?_ | refine Two_intro ?_ ?_ | (refine leK_lit ?_; (simp [-List.getD_eq_getElem?_getD, LeL, lk, *]; done)) | (refine leK_dd ?_; (simp [-List.getD_eq_getElem?_getD, LeS, LeL, lk, *]; done)) | (simp only [Fact, Bool.not_eq_true', Bool.not_eq_false', decide_eq_true_eq, decide_eq_false_iff_not] at *; refine leK_dd ?_; (simp [-List.getD_eq_getElem?_getD, LeS, LeL, lk, *]; done)) | (show (_ : Nat) ≤ _; omega)) <;> (try simp (disch := omega) only [*, ↓Ed, Eu, ↓reduceIte, reduceCtorEq, Nat.reduceAdd, Nat.reduceEqDiff, Nat.reduceLT, Nat.reduceLeDiff, Int.reduceToNat, Int.reduceEq, Int.reduceLT, Int.reduceLE, gdS, al_so, al_al, al_pc, al_rc, al_pst, al_rst, so_pst, so_rst, w64, List.length_append, List.length_map, Nat.mul_one, beq_self_eq_true, u10, List.length_cons, List.length_nil, Nat.reduceMul]))
  · have f5 : Fact (decide (((linesC c).length : Int) ≤ q) = true) := by simp only [Fact, Bool.not_eq_true', Bool.not_eq_false', decide_eq_true_eq, decide_eq_false_iff_not]; omega
    rw [bad_end, if_neg e, show endL (linesC c) = textC c from rfl, c3] at hPb
    rw [bad_end, if_neg e, show endL (linesC c) = textC c from rfl]
    clear e c2 c3 k2 k3 k4 k2k k3k g1 hk
    simp (disch := omega) only [↓Ed, Eu, ↓reduceIte, reduceCtorEq, Nat.reduceAdd, Nat.reduceEqDiff, Nat.reduceLT, Nat.reduceLeDiff, Int.reduceToNat, Int.reduceEq, Int.reduceLT, Int.reduceLE, gdS, al_so, al_al, al_pc, al_rc, al_pst, al_rst, so_pst, so_rst, w64, List.length_append, List.length_map, Nat.mul_one, beq_self_eq_true, u10, List.length_cons, List.length_nil, Nat.reduceMul]
    repeat' ((first | refine CallO_pure (hPa) ?_ | refine CallO_pure (hPb) ?_ | refine CallO_pure (hS) ?_ | refine NewB_intro0 (fun b => ?_) | (refine NewB_intro (fun b hb => ?_); simp only [ln_cons2, ln_nil, and_true] at hb) | (with_reducible apply And.intro; (focus (first | omega | (simp only [Fact, Bool.not_eq_true', Bool.not_eq_false', decide_eq_true_eq, decide_eq_false_iff_not] at *; omega)))) | ((first | refine gW_sp ?_ | refine condW_sp ?_ | refine pickW_sp ?_); (try refine Sp_n ?_); (first | refine Sp_t (by assumption) ?_ | refine Sp_f (by assumption) ?_ | refine Sp_split (fun h => ?_) (fun h => ?_)) <;> (first | have h' := Fact_lt h | have h' := Fact_nlt h | have h' := Fact_le h | have h' := Fact_nle h | skip) <;> (try (exfalso; omega))) | refine TreeW_intro (by rfl) ?_ | refine TreeW_all ?_ | refine upQ_intro ?_ | refine Two_intro ?_ ?_ | (refine leK_lit ?_; (simp [-List.getD_eq_getElem?_getD, LeL, lk, *]; done)) | (refine leK_dd ?_; (simp [-List.getD_eq_getElem?_getD, LeS, LeL, lk, *]; done)) | (simp only [Fact, Bool.not_eq_true', Bool.not_eq_false', decide_eq_true_eq, decide_eq_false_iff_not] at *; refine leK_dd ?_; (simp [-List.getD_eq_getElem?_getD, LeS, LeL, lk, *]; done)) | (show (_ : Nat) ≤ _; omega)) <;> (try simp (disch := omega) only [*, ↓Ed, Eu, ↓reduceIte, reduceCtorEq, Nat.reduceAdd, Nat.reduceEqDiff, Nat.reduceLT, Nat.reduceLeDiff, Int.reduceToNat, Int.reduceEq, Int.reduceLT, Int.reduceLE, gdS, al_so, al_al, al_pc, al_rc, al_pst, al_rst, so_pst, so_rst, w64, List.length_append, List.length_map, Nat.mul_one, beq_self_eq_true, u10, List.length_cons, List.length_nil, Nat.reduceMul]))
end Go.Proofs.YtbjmcmgekcmbpabDoor

/- The abstract machine, part 15: arguments opened to abstract values; a law's row closed. -/
namespace Go.Proofs.YtbjmcmgekcmbpabDoor
set_option linter.all false
open Go.RowKit Go.WideShapes Go.ChangeShapes

/-! ### types whose values have no pointers of their own -/
def chainB (P : Program) : Nat → List Field → Option Nat
  | a, [] => some a
  | a, f :: fs => if f.offset = a then chainB P (a + P.cellsOf f.type) fs else none
def flatB (P : Program) : Nat → TypeId → Bool
  | 0, _ => false
  | n + 1, t => match P.underlying t with
    | some .bool => true
    | some (.int _) => true
    | some .string => true
    | some (.struct fs) => decide (chainB P 0 fs.toList = some (P.cellsOf t)) && fs.toList.all fun f => flatB P n f.type
    | some (.slice e) => decide (0 < P.cellsOf e) && flatB P n e
    | _ => false
/-- What is known of the cells of a value of a type. -/
def TVF (R : TypeId → List AV → Prop) : List Field → List AV → Prop
  | [], l => l = []
  | f :: fs, l => ∃ p q, R f.type p ∧ TVF R fs q ∧ l = p ++ q
def TV (P : Program) : Nat → TypeId → List AV → Prop
  | 0, _, _ => False
  | n + 1, t, l => match P.underlying t with
    | some .bool => ∃ b, l = [.bool b]
    | some (.int k) => ∃ m, l = [.int k m] ∧ (Lit.int k m).wf = true
    | some .string => ∃ s, l = [.str s] ∧ s.length ≤ maxLen
    | some (.struct fs) => TVF (TV P n) fs.toList l
    | some (.slice e) => ∃ els, l = [.sl none (P.cellsOf e) els] ∧ els.length ≤ maxLen ∧ ∀ c ∈ els, TV P n e c
    | _ => False
/-- .. of an argument. -/
def TA (P : Program) (n : Nat) (t : TypeId) (a : AV) : Prop := match P.underlying t with
  | some (.struct _) => ∃ l, a = .agg l ∧ TV P n t l
  | _ => TV P n t [a]
def TAs (P : Program) (n : Nat) : List TypeId → List AV → Prop
  | [], l => l = []
  | t :: ts, l => ∃ a q, TA P n t a ∧ TAs P n ts q ∧ l = a :: q

/-- Cells read as abstract values. -/
structure VRs (W : World) (U : Nat → Nat → Prop) (cs : List Value) (l : List AV) : Prop where
  len : cs.length = l.length
  vr : ∀ (i : Nat) (v : Value) (c : AV), cs[i]? = some v → l[i]? = some c → VR W U v c
  one : ∀ v ∈ cs, v.oneCell' = true
section
variable {W : World} {U : Nat → Nat → Prop}
theorem VRs.nil : VRs W U [] [] := ⟨rfl, fun i v c h => by simp at h, fun v h => by simp at h⟩
theorem VRs.one1 {v : Value} {c : AV} (h : VR W U v c) (h1 : v.oneCell' = true) : VRs W U [v] [c] :=
  ⟨rfl, fun i v' c' hv hc => by
    cases i with
    | zero => simp at hv hc; subst hv; subst hc; exact h
    | succ i => simp at hv, fun v' hv => by simp at hv; subst hv; exact h1⟩
theorem VRs.append {a b : List Value} {l m : List AV} (h : VRs W U a l) (g : VRs W U b m) : VRs W U (a ++ b) (l ++ m) := by
  refine ⟨by simp [h.len, g.len], fun i v c hv hc => ?_, fun v hv => ?_⟩
  · by_cases hi : i < a.length
    · rw [List.getElem?_append_left hi] at hv
      rw [List.getElem?_append_left (by have := h.len; omega)] at hc
      exact h.vr i v c hv hc
    · rw [List.getElem?_append_right (by omega)] at hv
      rw [List.getElem?_append_right (by have := h.len; omega), ← h.len] at hc
      exact g.vr _ v c hv hc
  · rcases List.mem_append.1 hv with hv | hv
    · exact h.one v hv
    · exact g.one v hv
end

theorem list_of {α : Type} {R : Nat → α → Prop} : ∀ (n : Nat), (∀ i, i < n → ∃ a, R i a) → ∃ l : List α, l.length = n ∧ ∀ i a, l[i]? = some a → R i a
  | 0, _ => ⟨[], rfl, fun i a h => by simp at h⟩
  | n + 1, h => by
    obtain ⟨l, hl, hr⟩ := list_of n (fun i hi => h i (by omega))
    obtain ⟨a, ha⟩ := h n (by omega)
    refine ⟨l ++ [a], by simp [hl], fun i b hb => ?_⟩
    by_cases hi : i < n
    · rw [List.getElem?_append_left (by omega)] at hb; exact hr i b hb
    · rw [List.getElem?_append_right (by omega)] at hb
      have hin : i = n := by
        by_cases h0 : i - l.length = 0
        · omega
        · have : (i - l.length) = (i - l.length - 1) + 1 := by omega
          rw [this] at hb; simp at hb
      subst hin
      simp [hl] at hb
      exact hb ▸ ha

section
variable {H : Type} {enc : TypeId × Value → H} {P : Program} {W : World} {base : Nat} {spare : Nat → Bool} {held : Bool} {U : Nat → Nat → Prop}

theorem open_fields {R : TypeId → List AV → Prop} (cs : List Value) :
    ∀ (fs : List Field) (a tot : Nat), chainB P a fs = some tot → cs.length = tot → (∀ f ∈ fs, ∃ p, R f.type p ∧ VRs W U ((cs.drop f.offset).take (P.cellsOf f.type)) p ) →
      ∃ l, TVF R fs l ∧ VRs W U (cs.drop a) l
  | [], a, tot, h, hl, _ => by
    simp only [chainB, Option.some.injEq] at h
    subst h
    exact ⟨[], rfl, by rw [List.drop_eq_nil_of_le (by omega)]; exact VRs.nil⟩
  | f :: fs, a, tot, h, hl, hf => by
    simp only [chainB] at h
    split at h
    · rename_i ha
      obtain ⟨p, h1, h2⟩ := hf f (by simp)
      obtain ⟨q, g1, g2⟩ := open_fields cs fs _ tot h hl (fun g hg => hf g (by simp [hg]))
      refine ⟨p ++ q, ⟨p, q, h1, g1, rfl⟩, ?_⟩
      have e : cs.drop a = (cs.drop a).take (P.cellsOf f.type) ++ cs.drop (a + P.cellsOf f.type) := by
        rw [← List.drop_drop, List.take_append_drop]
      rw [e]
      rw [ha] at h2
      exact h2.append g2
    · cases h

theorem open_flat (hU : ∀ b o, ¬ U b o) : ∀ (n : Nat) (t : TypeId) (cs : List Value) (fuel : Nat) (x : DataW H × List MemPlace), flatB P n t = true → DataW.trod enc P W base spare held fuel t cs = some x →
    ∃ l, TV P n t l ∧ VRs W U cs l
  | 0, t, cs, fuel, x, hf, h => by simp [flatB] at hf
  | n + 1, t, cs, fuel, x, hf, h => by
    unfold flatB at hf
    unfold TV
    split at hf
    · rename_i ht
      obtain ⟨b, rfl, _⟩ := DataW.trod_bool ht h
      exact ⟨_, ⟨b, rfl⟩, VRs.one1 (.bool b) rfl⟩
    · rename_i k ht
      obtain ⟨m, rfl, _, hw⟩ := DataW.trod_int ht h
      exact ⟨_, ⟨m, rfl, hw⟩, VRs.one1 (.int k m) rfl⟩
    · rename_i ht
      obtain ⟨s, rfl, _, hs⟩ := DataW.trod_string ht h
      obtain ⟨⟨l⟩⟩ := s
      exact ⟨_, ⟨l, rfl, hs⟩, VRs.one1 (.str l) rfl⟩
    · rename_i fs ht
      simp only [Bool.and_eq_true, decide_eq_true_eq, List.all_eq_true] at hf
      obtain ⟨hch, hall⟩ := hf
      obtain ⟨xs, m, _, _, hlen, hxl, hfi⟩ := DataW.trod_struct ht h
      have := open_fields (W := W) (U := U) (R := TV P n) cs fs.toList 0 _ hch hlen (fun f hfm => ?_)
      · simpa using this
      obtain ⟨i, hi, hfe⟩ := List.getElem_of_mem hfm
      have hfi' := hfi i f (by rw [← hfe]; simp at hi; simp [hi])
      have hxi : xs[i]? = some (xs[i]'(by simp at hi; omega)) := List.getElem?_eq_getElem _
      rw [hxi] at hfi'
      obtain ⟨p, h1, h2⟩ := open_flat hU n f.type _ _ _ (hall f hfm) hfi'
      exact ⟨p, h1, h2⟩
    · rename_i e ht
      simp only [Bool.and_eq_true, decide_eq_true_eq] at hf
      obtain ⟨hpos, hfe⟩ := hf
      rcases Go.Deep.open_slice ht h with ⟨rfl, _⟩ | ⟨a, len, cap, m, n', D, Pl, rfl, _, hl, hm, hmm, _, hi⟩
      · refine ⟨_, ⟨[], rfl, by simp, by simp⟩, VRs.one1 ?_ rfl⟩
        exact .sl none 0 none [] 0 0 (P.cellsOf e) (fun _ _ => undef) (by simp) (by simp) (by simp) (by simp) (by simp) (by simp)
      · have hlm : len ≤ m := by rw [hmm]; split <;> omega
        obtain ⟨els, hel, hr⟩ := list_of (R := fun i l => TV P n e l ∧ ∃ cs', W.cells? base (a.add (i * P.cellsOf e)) (P.cellsOf e) = some cs' ∧ VRs W U cs' l) len (fun i hil => by
          obtain ⟨cs', hc, ht'⟩ := hi i (by omega)
          obtain ⟨l, h1, h2⟩ := open_flat hU n e _ _ _ hfe ht'
          exact ⟨l, h1, cs', hc, h2⟩)
        refine ⟨_, ⟨els, rfl, by omega, fun c hc => ?_⟩, VRs.one1 ?_ rfl⟩
        · obtain ⟨i, hi', rfl⟩ := List.getElem_of_mem hc
          exact (hr i _ (List.getElem?_eq_getElem hi')).1
        · obtain ⟨b, o, spot⟩ := a
          have hcell : ∀ i j, i < els.length → j < P.cellsOf e → ∃ v, W.cell? ⟨b, o + i * P.cellsOf e + j, none⟩ = some v ∧ v.oneCell' = true ∧ (∀ c, (els[i]?.bind (·[j]?)) = some c → VR W U v c) ∧ (0 < len → spot = none) := by
            intro i j hi' hj
            obtain ⟨_, cs', hc, hv⟩ := hr i _ (List.getElem?_eq_getElem hi')
            obtain ⟨_, hcl, hat⟩ := World.cells?_some hc
            have hcj := hat j hj
            have hjl : cs'[j]? = some (cs'[j]'(by omega)) := List.getElem?_eq_getElem _
            rw [hjl] at hcj
            have hsp : 0 < len → spot = none := fun h0 => by
              obtain ⟨cs0, hc0, _⟩ := hi 0 (by omega)
              obtain ⟨_, hcl0, hat0⟩ := World.cells?_some hc0
              have := hat0 0 hpos
              rw [show cs0[0]? = some (cs0[0]'(by omega)) from List.getElem?_eq_getElem _] at this
              have := World.cell?_spot this
              simpa [Addr.add] using this
            have hs0 := hsp (by omega)
            subst hs0
            have ea : ((⟨b, o, none⟩ : Addr).add (i * P.cellsOf e)).add j = ⟨b, o + i * P.cellsOf e + j, none⟩ := by
              rw [Go.Deep.add_add]
              unfold Addr.add
              split
              · rename_i h0; first | (simp; done) | (simp; omega)
              · simp [Nat.add_assoc]
            rw [ea] at hcj
            refine ⟨_, hcj, hv.one _ (List.getElem_mem _), fun c hc' => ?_, hsp⟩
            rw [List.getElem?_eq_getElem hi'] at hc'
            exact hv.vr j _ c hjl hc'
          rw [← hel] at hl ⊢
          have hsz : ∀ l ∈ els, l.length = P.cellsOf e := fun l hl' => by
            obtain ⟨i, hi', rfl⟩ := List.getElem_of_mem hl'
            obtain ⟨_, cs', hc, hv⟩ := hr i _ (List.getElem?_eq_getElem hi')
            rw [← hv.len]
            exact (World.cells?_some hc).2.1
          refine .sl _ cap none els b o (P.cellsOf e) (fun i j => (W.cell? ⟨b, o + i * P.cellsOf e + j, none⟩).getD undef) hl hm (fun h0 => ?_) hsz (fun i j hi' hj => ?_) (fun i l j c hl' hc => ?_)
          · obtain ⟨v, _, _, _, hs⟩ := hcell 0 0 h0 hpos
            rw [hs (by omega)]
          · obtain ⟨v, h1, h2, _⟩ := hcell i j hi' hj
            rw [h1]
            exact ⟨rfl, h2, hU _ _⟩
          · have hi' : i < els.length := (List.getElem?_eq_some_iff.1 hl').1
            have hj : j < P.cellsOf e := by rw [← hsz l (List.mem_of_getElem? hl')]; exact (List.getElem?_eq_some_iff.1 hc).1
            obtain ⟨v, h1, _, h3, _⟩ := hcell i j hi' hj
            rw [h1]
            exact h3 c (by rw [hl']; exact hc)
    · cases hf

theorem open_arg (hU : ∀ b o, ¬ U b o) {r : Reach} {b0 n : Nat} {t : TypeId} {v : Value} {d : DataW H} {ps : List MemPlace} (hf : flatB P n t = true) (hval : Value.okWide P W r b0 t v) (hd : DataW.Trod enc P W base spare held t v d ps) :
    ∃ a, TA P n t a ∧ VR W U v a := by
  obtain ⟨fuel, hd⟩ := hd
  obtain ⟨l, h1, h2⟩ := open_flat (U := U) hU n t _ _ _ hf hd
  cases n with
  | zero => simp [flatB] at hf
  | succ n =>
    have key : ∀ w : Value, w.cells.toList = [w] → v = w → ∀ a, l = [a] → VR W U v a := fun w hw hv a ha => by
      subst hv; subst ha
      exact h2.vr 0 v a (by rw [hw]; rfl) rfl
    unfold TA
    unfold flatB at hf
    have h1' := h1
    unfold TV at h1
    split at hf
    · rename_i ht
      rw [ht] at h1 ⊢
      obtain ⟨b, rfl⟩ := h1
      obtain ⟨b', rfl⟩ : ∃ b', v = .bool b' := by
        simp only [Value.okWide, ht, Cell.okWide] at hval
        cases v <;> simp_all [Cell.ok]
      exact ⟨_, h1', key _ rfl rfl _ rfl⟩
    · rename_i k ht
      rw [ht] at h1 ⊢
      obtain ⟨m, rfl, _⟩ := h1
      obtain ⟨m', rfl⟩ := okWide_int ht hval
      exact ⟨_, h1', key _ rfl rfl _ rfl⟩
    · rename_i ht
      rw [ht] at h1 ⊢
      obtain ⟨s, rfl, _⟩ := h1
      obtain ⟨s', rfl⟩ := okWide_string ht hval
      exact ⟨_, h1', key _ rfl rfl _ rfl⟩
    · rename_i fs ht
      rw [ht]
      obtain ⟨cs, rfl, _⟩ := okWide_struct ht hval
      refine ⟨_, ⟨l, rfl, h1'⟩, ?_⟩
      obtain ⟨cs⟩ := cs
      exact .agg cs l h2.len h2.vr h2.one
    · rename_i e ht
      rw [ht] at h1 ⊢
      obtain ⟨els, rfl, _⟩ := h1
      obtain ⟨a, len, cap, rfl⟩ := okWide_slice ht hval
      exact ⟨_, h1', key _ rfl rfl _ rfl⟩
    · cases hf

theorem open_args (hU : ∀ b o, ¬ U b o) {r : Reach} {b0 n : Nat} : ∀ {ts : List TypeId} {vs : List Value} {ds : List (DataW H)} {ps : List MemPlace}, (∀ t ∈ ts, flatB P n t = true) →
    (∀ (j : Nat) t v, ts[j]? = some t → vs[j]? = some v → Value.okWide P W r b0 t v) → DataW.TrodAll enc P W base spare held ts vs ds ps →
    ∃ l, TAs P n ts l ∧ vs.length = l.length ∧ ∀ (i : Nat) (v : Value) (c : AV), vs[i]? = some v → l[i]? = some c → VR W U v c
  | [], vs, ds, ps, _, _, h => by
    cases vs with
    | nil => exact ⟨[], rfl, rfl, fun i v c h => by simp at h⟩
    | cons v vs => cases ds <;> exact h.elim
  | t :: ts, vs, ds, ps, hf, hval, h => by
    cases vs with
    | nil => cases ds <;> exact h.elim
    | cons v vs =>
      cases ds with
      | nil => exact h.elim
      | cons d ds =>
        obtain ⟨p, q, h1, h2, _⟩ := h
        obtain ⟨a, ha, hv⟩ := open_arg (U := U) hU (hf t (by simp)) (hval 0 t v rfl rfl) h1
        obtain ⟨l, hl, hlen, hvr⟩ := open_args hU (fun t' ht' => hf t' (by simp [ht'])) (fun j t' v' h3 h4 => hval (j + 1) t' v' h3 h4) h2
        refine ⟨a :: l, ⟨a, l, ha, hl, rfl⟩, by simp [hlen], fun i w c h3 h4 => ?_⟩
        cases i with
        | zero => simp at h3 h4; subst h3; subst h4; exact hv
        | succ i => exact hvr i w c h3 h4

theorem args_stay (hl : laidOutB P = true) {W' : World} (hb : Below W.heap.size W W') {sp' : Nat → Bool} : ∀ {ts : List TypeId} {vs : List Value} {ds : List (DataW H)} {ps : List MemPlace}, (∀ t ∈ ts, P.readableRec t = true ∧ t < P.types.size) →
    DataW.TrodAll enc P W 0 (fun _ => true) true ts vs ds ps → (∀ x ∈ ps, x.block < W.heap.size) → (∀ x ∈ ps, sp' x.block = true) → DataW.TrodAll enc P W' 0 sp' true ts vs ds ps
  | [], vs, ds, ps, _, h, _, _ => by cases vs <;> cases ds <;> exact h
  | t :: ts, vs, ds, ps, ht, h, hlt, hsp => by
    cases vs with
    | nil => cases ds <;> exact h.elim
    | cons v vs =>
      cases ds with
      | nil => exact h.elim
      | cons d ds =>
        obtain ⟨p, q, h1, h2, rfl⟩ := h
        refine ⟨p, q, ?_, args_stay hl hb (fun t' ht' => ht t' (by simp [ht'])) h2 (fun x hx => hlt x (by simp [hx])) (fun x hx => hsp x (by simp [hx])), rfl⟩
        exact WideElems.Trod_stays hl (ht t (by simp)).1 (ht t (by simp)).2 h1 (fun x hx => hb.same (hlt x (by simp [hx]))) (fun x hx => hsp x (by simp [hx]))

theorem post_of_below {f : Func} {s : ChangeSpec} {apart fresh handsOn again : Bool} {W W' : World} {args : Array Value} {v : Value} {ds gs : List (DataW H)} {before pa pv : List MemPlace}
    (hW : DataW.Whole enc P f.params.toList s.vars apart W args.toList ds gs before)
    (hres : ∀ (b : Nat) (sp : Nat → Bool) (hd : Bool), DataW.TrodAll enc P W' b sp hd f.resultTypes.toList (v.resultList f.resultTypes.size) (s.fn H (ds ++ gs)).results [])
    (hargs : ∀ sp : Nat → Bool, (∀ p ∈ before, sp p.block = true) → DataW.TrodAll enc P W' 0 sp true f.params.toList args.toList (s.fn H (ds ++ gs)).args pa)
    (hvars : ∀ sp : Nat → Bool, (∀ p ∈ before, sp p.block = true) → DataW.TrodVars enc P W' sp s.vars (s.fn H (ds ++ gs)).vars pv)
    (hps : before = pa ++ pv) (hb : Below W.heap.size W W')
    (hok : ∀ (j : Nat) (t : TypeId) (r : Value), f.resultTypes[j]? = some t → (v.resultList f.resultTypes.size)[j]? = some r → Value.okWide P W' .any 0 t r) :
    s.post enc P f apart fresh handsOn again W args v W' := by
  have hlt : ∀ p ∈ before, p.block < W.heap.size := fun p hp => hW.lt p hp
  have hold : ∀ p ∈ before, (fun b => decide (b < W.heap.size)) p.block = true := fun p hp => by simpa using hlt p hp
  refine ⟨ds, gs, before, [], pa, pv, hW, hres _ _ _, hargs _ hold, hvars _ hold, World.keptBut_mono (fun p hp => ⟨hp, ?_⟩) (hb.frame (· ∈ before)), fun _ => ?_⟩
  · rw [hps, List.mem_append] at hp
    exact Or.inr hp
  · obtain ⟨_, _, _, _, _, hz, hn⟩ := hW
    refine ⟨hok, _, _, ([] ++ pa) ++ pv, ⟨[] ++ pa, pv, trodAll_append (hargs _ (fun _ _ => rfl)) (hres _ _ _), hvars _ (fun _ _ => rfl), rfl, ?_, ?_⟩, ?_⟩
    · intro b off hp
      have hin : MemPlace.cell b off ∈ before := by rw [hps]; simpa using hp
      rw [hb.frozen (hlt _ hin)]
      exact hz b off hin
    · intro ha
      have := hn ha
      rw [hps] at this
      simpa using this
    · intro p hp _
      rw [hps]
      simpa using hp
/-- A LAW'S ROW: the law's function returns true on all abstract values of its parameters' types. -/
theorem row_of_CP {f : Func} {N n tb : Nat} {s : ChangeSpec} {args : Array Value} {ds gs : List (DataW H)} {before : List MemPlace} (hl : laidOutB P = true)
    (hread : f.params.toList.all (fun t => P.readableRec t && decide (t < P.types.size) && flatB P n t) = true) (hrt : f.resultTypes = #[tb]) (htb : P.underlying tb = some .bool) (hvars : s.vars = [])
    (hfn : gs = [] → ds.length = f.params.size → (s.fn H (ds ++ gs)).results = [.lit (.bool true)] ∧ (s.fn H (ds ++ gs)).args = ds ∧ (s.fn H (ds ++ gs)).vars = [])
    (hval : ∀ (j : Nat) t v, f.params[j]? = some t → args[j]? = some v → Value.okWide P W .any base t v)
    (hW : DataW.Whole enc P f.params.toList s.vars false W args.toList ds gs before)
    (hG : Glob W fun _ _ => False) (hCP : ∀ l, TAs P n f.params.toList l → CP P N l (.bool true)) :
    Calls P N args W fun e W' => ∃ v, e = .returned v ∧ s.post enc P f false true false false W args v W' := by
  have hW' := hW
  obtain ⟨p, q, hA, hV, rfl, hfz, hnd⟩ := hW
  simp only [List.all_eq_true, Bool.and_eq_true, decide_eq_true_eq] at hread
  have hgs : gs = [] ∧ q = [] := by
    rw [hvars] at hV
    cases gs with
    | nil => exact ⟨rfl, hV⟩
    | cons g gs => exact hV.elim
  obtain ⟨rfl, rfl⟩ := hgs
  obtain ⟨l, hl1, hl2, hl3⟩ := open_args (U := fun _ _ => False) (fun _ _ h => h) (fun t ht => (hread t ht).2) (fun j t v h1 h2 => hval j t v (by simpa using h1) (by simpa using h2)) hA
  have hds : ds.length = f.params.size := by
    have : ∀ {ts : List TypeId} {vs : List Value} {ds : List (DataW H)} {ps : List MemPlace}, DataW.TrodAll enc P W 0 (fun _ => true) true ts vs ds ps → ds.length = ts.length := by
      intro ts
      induction ts with
      | nil => intro vs ds ps h; cases vs <;> cases ds <;> first | rfl | exact h.elim
      | cons t ts ih =>
        intro vs ds ps h
        cases vs <;> cases ds <;> first | exact h.elim | skip
        obtain ⟨p, q, _, h2, _⟩ := h
        simp [ih h2]
    simpa using this hA
  obtain ⟨f1, f2, f3⟩ := hfn rfl hds
  have hc := hCP l hl1 W (fun _ _ => False) args.toList hG hl2 hl3
  have ea : args.toList.toArray = args := by simp
  rw [ea] at hc
  refine Calls.mono hc fun e W' => ?_
  rintro ⟨v, U', rfl, hv, _, hx⟩
  cases hv
  refine ⟨_, rfl, post_of_below hW' (pa := p) (pv := []) (fun _ _ _ => ?_) (fun sp hsp => ?_) (fun _ _ => ?_) rfl hx.b ?_⟩
  · rw [hrt, f1]
    exact trodAll_mk1 (shut_bool htb true)
  · rw [f2]
    exact args_stay hl hx.b (fun t ht => (hread t ht).1) hA (fun x hx => hW'.lt x (by simpa using hx)) (fun x hx => hsp x (by simpa using hx))
  · rw [hvars, f3]; rfl
  · exact ok_one hrt rfl (okWide_bool_mk htb _)
end
end Go.Proofs.YtbjmcmgekcmbpabDoor
