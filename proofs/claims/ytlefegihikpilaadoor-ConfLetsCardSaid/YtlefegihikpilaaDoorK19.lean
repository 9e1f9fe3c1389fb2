import Derived.Test.YtlefegihikpilaaDoorK18
import Derived.Test.YtlefegihikpilaaDoorK15
import Derived.Test.YtlefegihikpilaaDoorK14
/- chapter 21: what the laws begin with -/
namespace Go.Proofs.YtlefegihikpilaaDoor
set_option linter.all false
open Go.RowKit
set_option maxRecDepth 100000
theorem goQ_small : ∀ (l : List (List UInt8)) (x : PS) (i : Nat), PSok x → (goQ x i l).1.ps.length ≤ 6 ∧ (goQ x i l).1.rs.length ≤ 32
  | [], x, i, h => by
    rw [goQ]
    split
    · exact ⟨h.pl, h.rl⟩
    · simp [Conf.zero]
  | t :: l, x, i, h => by
    rw [goQ]
    split
    · rename_i g
      exact goQ_small l _ _ (lineQ_ok h g)
    · simp [Conf.zero]
theorem confP_small (s : List UInt8) : (confP s).1.ps.length ≤ 6 ∧ (confP s).1.rs.length ≤ 32 := goQ_small _ _ _ ps_zero
theorem mayG_len {p : List UInt8} (h : mayG p = true) : p.length ≤ 40 := (mayG_iff.1 h).2.1
theorem name_len {s : List UInt8} (h : nameP s = true) : s.length ≤ 12 := (nameP_iff.1 h).2.1
theorem may_short {c : Conf} (h : confQ c) : c.a.length ≤ 1000000 ∧ c.b.length ≤ 1000000 ∧ (∀ i, (c.ps.getD i default).ap.length ≤ 1000000 ∧ (c.ps.getD i default).bp.length ≤ 1000000) ∧ (∀ i, (c.rs.getD i default).pt.length ≤ 1000000) := by
  obtain ⟨h1, h2, _, _, _, _, _, _, h9, h10⟩ := h
  refine ⟨Nat.le_trans (name_len h1) (by omega), Nat.le_trans (name_len h2) (by omega), fun i => ?_, fun i => ?_⟩
  · by_cases hi : i < c.ps.length
    · have := (h9 i hi).1
      simp only [pathMay, Bool.and_eq_true] at this
      exact ⟨Nat.le_trans (mayP_t this.1).1 (by omega), Nat.le_trans (mayP_t this.2).1 (by omega)⟩
    · rw [List.getD, List.getElem?_eq_none (by omega)]; exact ⟨Nat.zero_le _, Nat.zero_le _⟩
  · by_cases hi : i < c.rs.length
    · exact Nat.le_trans (mayG_len (h10 i hi)) (by omega)
    · rw [List.getD, List.getElem?_eq_none (by omega)]; exact Nat.zero_le _
theorem ex_ivl : confP [105, 110, 116, 101, 114, 118, 97, 108, 32, 48, 10] = (Conf.zero 0, 1, 1) := by
  have e : spx 10 [105, 110, 116, 101, 114, 118, 97, 108, 32, 48, 10] = [[105, 110, 116, 101, 114, 118, 97, 108, 32, 48], []] := by decide
  have w : wordsL [105, 110, 116, 101, 114, 118, 97, 108, 32, 48] = [[105, 110, 116, 101, 114, 118, 97, 108], [48]] := by decide
  have n : numP [48] = (0, 0) := by decide
  have q : lineQ PS.zero [105, 110, 116, 101, 114, 118, 97, 108, 32, 48] = (PS.zero, 1) := by
    unfold lineQ
    rw [if_neg (by decide), w]
    unfold lineW
    rw [if_neg (by decide), if_neg (by decide), if_neg (by decide), if_neg (by decide), if_pos (by decide)]
    unfold everyQ
    rw [if_neg (by decide), if_neg (by rw [show ([[105, 110, 116, 101, 114, 118, 97, 108], [48]] : List (List UInt8)).getD 1 [] = [48] from rfl, n]; decide), if_pos (by rw [show ([[105, 110, 116, 101, 114, 118, 97, 108], [48]] : List (List UInt8)).getD 1 [] = [48] from rfl, n]; decide)]
  unfold confP
  rw [e, goQ, q, if_neg (by simp)]
  rfl
theorem ex_nil : confP [] = (Conf.zero 0, 0, 7) := by
  rw [confP_lines]
  have e : linesD [] = [] := by decide
  rw [e, goQ, if_neg (by simp [PS.zero])]
theorem p_cfirst : CP Tryd.prog 8 [] (.bool true) := by
  have h1 := p_cParse [105, 110, 116, 101, 114, 118, 97, 108, 32, 48, 10] (by simp)
  have h2 := p_cParse [] (by simp)
  rw [ex_ivl] at h1
  rw [ex_nil] at h2
  refine ok_liglaw21_first _ _ (by simp) ?_
  simp only [c_liglaw21_first, ↓Ed, Eu, ↓reduceIte, reduceCtorEq, Nat.reduceAdd, Nat.reduceEqDiff, Nat.reduceLT, Nat.reduceLeDiff, Int.reduceToNat, Int.reduceEq, Int.reduceLT, Int.reduceLE, al_so, al_al, al_pc, al_rc, al_pst, al_rst, so_pst, so_rst, w64, List.length_append, List.length_map, Nat.mul_one, beq_self_eq_true]
  repeat' ((first | refine CallO_pure (h1) ?_ | refine CallO_pure (h2) ?_ | refine NewB_intro0 (fun b => ?_) | (refine NewB_intro (fun b hb => ?_); simp only [ln_cons2, ln_nil, and_true] at hb) | (with_reducible apply And.intro; (focus (first | omega | (simp only [Fact, Bool.not_eq_true', Bool.not_eq_false', decide_eq_true_eq, decide_eq_false_iff_not] at *; omega)))) | ((first | refine gW_sp ?_ | refine condW_sp ?_ | refine pickW_sp ?_); (try refine Sp_n ?_); (first | refine Sp_t (by assumption) ?_ | refine Sp_f (by assumption) ?_ | refine Sp_split (fun h => ?_) (fun h => ?_)) <;> (first | have h' := Fact_lt h | have h' := Fact_nlt h | have h' := Fact_le h | have h' := Fact_nle h | skip) <;> (try (exfalso; omega))) | refine TreeW_intro (by rfl) ?_ | refine TreeW_all ?_ | refine upQ_intro ?_ | refine Two_intro ?_ ?_ | (refine leK_lit ?_; (simp [-List.getD_eq_getElem?_getD, LeL, lk, *]; done)) | (refine leK_dd ?_; (simp [-List.getD_eq_getElem?_getD, LeS, LeL, lk, *]; done)) | (simp only [Fact, Bool.not_eq_true', Bool.not_eq_false', decide_eq_true_eq, decide_eq_false_iff_not] at *; refine leK_dd ?_; (simp [-List.getD_eq_getElem?_getD, LeS, LeL, lk, *]; done)) | (show (_ : Nat) ≤ _; omega)) <;> (try simp (disch := omega) only [*, ↓Ed, Eu, ↓reduceIte, reduceCtorEq, Nat.reduceAdd, Nat.reduceEqDiff, Nat.reduceLT, Nat.reduceLeDiff, Int.reduceToNat, Int.reduceEq, Int.reduceLT, Int.reduceLE, al_so, al_al, al_pc, al_rc, al_pst, al_rst, so_pst, so_rst, w64, List.length_append, List.length_map, Nat.mul_one, beq_self_eq_true]))
end Go.Proofs.YtlefegihikpilaaDoor

/- chapter 21: which paths the rules let through; light configurations -/
namespace Go.Proofs.YtlefegihikpilaaDoor
set_option linter.all false
open Go.RowKit
set_option maxRecDepth 100000
noncomputable def letsP (l : List RuleC) (t : List UInt8) : Bool := match l.find? (fun r => matchP r.pt t) with
  | some r => r.al
  | none => l.all fun r => !r.al
theorem split_at {α : Type} [Inhabited α] {l : List α} {k : Nat} (hk : k < l.length) : l = l.take k ++ l.getD k default :: l.drop (k + 1) := by
  have e : l.getD k default = l[k] := by rw [List.getD, List.getElem?_eq_getElem hk]; rfl
  rw [e, ← List.drop_eq_getElem_cons hk, List.take_append_drop]
theorem all_take {α : Type} [Inhabited α] {l : List α} {p : α → Bool} {k : Nat} (hk : k < l.length) : (l.take (k + 1)).all p = ((l.take k).all p && p (l.getD k default)) := by
  rw [List.take_succ_eq_append_getElem hk, List.all_append]
  simp [List.getD, List.getElem?_eq_getElem hk]
theorem all_bad {α : Type} [Inhabited α] {l : List α} {p : α → Bool} {k : Nat} (hk : k < l.length) (h : p (l.getD k default) = false) : l.all p = false := by
  rw [List.all_eq_false]
  refine ⟨l.getD k default, ?_, by rw [h]; decide⟩
  rw [List.getD, List.getElem?_eq_getElem hk]; exact List.getElem_mem hk
theorem lets_hit {l : List RuleC} {t : List UInt8} {k : Nat} (hk : k < l.length) (h0 : (l.take k).all (fun r => !matchP r.pt t) = true) (hm : matchP (l.getD k default).pt t = true) : letsP l t = (l.getD k default).al := by
  have : l.find? (fun r => matchP r.pt t) = some (l.getD k default) := by
    rw [List.find?_eq_some_iff_append]
    refine ⟨hm, l.take k, l.drop (k + 1), split_at hk, fun a ha => ?_⟩
    exact List.all_eq_true.1 h0 a ha
  unfold letsP
  rw [this]
theorem lets_end {l : List RuleC} {t : List UInt8} (h0 : l.all (fun r => !matchP r.pt t) = true) : letsP l t = l.all fun r => !r.al := by
  have : l.find? (fun r => matchP r.pt t) = none := by
    rw [List.find?_eq_none]
    intro x hx
    have := List.all_eq_true.1 h0 x hx
    simpa using this
  unfold letsP
  rw [this]
theorem lets_nil (t : List UInt8) : letsP [] t = true := rfl
theorem lets_cons (r : RuleC) (l : List RuleC) (t : List UInt8) : letsP (r :: l) t = if matchP r.pt t = true then r.al else (letsP l t && (!r.al || (l.find? (fun r => matchP r.pt t)).isSome)) := by
  unfold letsP
  rw [List.find?_cons]
  cases h : matchP r.pt t with
  | true => simp
  | false =>
    simp only [Bool.false_eq_true, if_false]
    cases l.find? (fun r => matchP r.pt t) with
    | some x => simp
    | none => simp only [List.all_cons, Option.isSome_none, Bool.or_false]; exact Bool.and_comm _ _
theorem lets_star (al : Bool) (l : List RuleC) (t : List UInt8) : letsP (⟨al, [42]⟩ :: l) t = al := by
  have : matchP [42] t = true := by
    unfold matchP
    rw [mt_st, mayG_iff.2 ⟨by simp, by simp, fun j hj => ?_⟩]; · rfl
    have : j = 0 := by simpa using hj
    subst this; decide
  rw [lets_cons, if_pos this]
theorem lets_none {l : List RuleC} {p : List UInt8} {c : Int} (h : mayP p c = true) : letsP (⟨false, [47, 47, 47]⟩ :: l) (textP p c) = letsP l (textP p c) := by
  have hn := (mayP_t h).2.2.2
  have hx : matchP [47, 47, 47] (textP p c) = false := by
    unfold matchP
    unfold textP
    rw [if_pos h]
    cases p with
    | nil => exact absurd rfl hn.1
    | cons x p =>
      have h0 := hn.2.2 0 (by simp)
      simp only [okAt, List.getD_cons_zero, ne_eq, not_true_eq_false, false_and, or_false] at h0
      have hx : x ≠ 47 := by rintro rfl; simp at h0
      simp only [List.cons_append]
      rw [mt_char (by decide)]
      simp [Ne.symm hx]
  rw [lets_cons, if_neg (by simp [hx])]
  simp
def lightC (c : Conf) : Bool := decide (c.a.length ≤ 60 ∧ c.b.length ≤ 60 ∧ c.ps.length ≤ 10 ∧ c.rs.length ≤ 40) && (c.ps.all fun p => decide (p.ap.length ≤ 60 ∧ p.bp.length ≤ 60)) && (c.rs.all fun r => decide (r.pt.length ≤ 60))
theorem light_t {c : Conf} (h : lightC c = true) : c.a.length ≤ 60 ∧ c.b.length ≤ 60 ∧ c.ps.length ≤ 10 ∧ c.rs.length ≤ 40 ∧ (∀ i, (c.ps.getD i default).ap.length ≤ 60 ∧ (c.ps.getD i default).bp.length ≤ 60) ∧ (∀ i, (c.rs.getD i default).pt.length ≤ 60) := by
  simp only [lightC, Bool.and_eq_true, decide_eq_true_eq] at h
  obtain ⟨⟨⟨h1, h2, h3, h4⟩, h5⟩, h6⟩ := h
  refine ⟨h1, h2, h3, h4, fun i => ?_, fun i => ?_⟩
  · by_cases hi : i < c.ps.length
    · have := List.all_eq_true.1 h5 (c.ps.getD i default) (by rw [List.getD, List.getElem?_eq_getElem hi]; exact List.getElem_mem hi)
      exact of_decide_eq_true this
    · rw [List.getD, List.getElem?_eq_none (by omega)]; exact ⟨Nat.zero_le _, Nat.zero_le _⟩
  · by_cases hi : i < c.rs.length
    · have := List.all_eq_true.1 h6 (c.rs.getD i default) (by rw [List.getD, List.getElem?_eq_getElem hi]; exact List.getElem_mem hi)
      exact of_decide_eq_true this
    · rw [List.getD, List.getElem?_eq_none (by omega)]; exact Nat.zero_le _
end Go.Proofs.YtlefegihikpilaaDoor

/- chapter 20: the document's Match; GlobTells -/
namespace Go.Proofs.YtlefegihikpilaaDoor
set_option linter.all false
open Go.RowKit
set_option maxRecDepth 100000
theorem tn1 (k : Nat) : ((k : Int) - 1).toNat = k - 1 := by omega
theorem tk1 (k : Nat) : ((k : Int) + 1).toNat = k + 1 := by omega
theorem flat1 (n : Nat) : (List.replicate n [AV.bool false]).flatten = (List.replicate n false).map AV.bool := by simp
set_option maxHeartbeats 4000000 in
theorem p_rMatch (p s : List UInt8) (hp : p.length ≤ 1000000) (hs : s.length ≤ 1000000) : CP Tryd.prog 25 [.str p, .str s] (.bool (matchP p s)) := by
  refine ok_ligref20_Match _ _ (by simp) ?_
  simp only [c_ligref20_Match, ↓Ed, Eu, ↓reduceIte, reduceCtorEq, Nat.reduceAdd, Nat.reduceEqDiff, Nat.reduceLT, Nat.reduceLeDiff, Int.reduceToNat, Int.reduceEq, Int.reduceLT, Int.reduceLE, w64, st_nil, List.length_map, List.length_set, rowT_len, RK_ldbool, sp_bool, Nat.mul_one, tn1, tk1, u8eq, u42, u63, flat1, List.length_replicate]
  repeat' ((first | refine CallO_pure (p_MayGlob p hp) ?_ | refine NewB_intro0 (fun b => ?_) | (refine NewB_intro (fun b hb => ?_); simp only [ln_cons2, ln_nil, and_true] at hb) | (with_reducible apply And.intro; (focus (first | omega | (simp only [Fact, Bool.not_eq_true', Bool.not_eq_false', decide_eq_true_eq, decide_eq_false_iff_not] at *; omega)))) | ((first | refine gW_sp ?_ | refine condW_sp ?_ | refine pickW_sp ?_); (try refine Sp_n ?_); (first | refine Sp_t (by assumption) ?_ | refine Sp_f (by assumption) ?_ | refine Sp_split (fun h => ?_) (fun h => ?_)) <;> (first | have h' := Fact_lt h | have h' := Fact_nlt h | have h' := Fact_le h | have h' := Fact_nle h | skip) <;> (try (exfalso; omega))) | refine TreeW_intro (by rfl) ?_ | refine TreeW_all ?_ | refine upQ_intro ?_ | refine Two_intro ?_ ?_ | (refine leK_lit ?_; (simp [-List.getD_eq_getElem?_getD, LeL, lk, *]; done)) | (refine leK_dd ?_; (simp [-List.getD_eq_getElem?_getD, LeS, LeL, lk, *]; done)) | (simp only [Fact, Bool.not_eq_true', Bool.not_eq_false', decide_eq_true_eq, decide_eq_false_iff_not] at *; refine leK_dd ?_; (simp [-List.getD_eq_getElem?_getD, LeS, LeL, lk, *]; done)) | (show (_ : Nat) ≤ _; omega)) <;> (try simp (disch := omega) only [*, ↓Ed, Eu, ↓reduceIte, reduceCtorEq, Nat.reduceAdd, Nat.reduceEqDiff, Nat.reduceLT, Nat.reduceLeDiff, Int.reduceToNat, Int.reduceEq, Int.reduceLT, Int.reduceLE, w64, st_nil, List.length_map, List.length_set, rowT_len, RK_ldbool, sp_bool, Nat.mul_one, tn1, tk1, u8eq, u42, u63, flat1, List.length_replicate]))
  case' refine_2 => simp only [Fact] at h; simp [matchP, h]
  have hm : mayG p = true := h
  have he : matchP p s = mt p s := by simp [matchP, hm]
  have h40 : p.length ≤ 40 := (mayG_iff.1 hm).2.1
  rw [he]
  refine wpx_loop (fun x : Nat × Nat => ⟨lk [(0, .str p), (1, .str s), (5, .osl x.2 0 (s.length + 1)), (6, .int .i64 (x.1 : Int))], lk [(x.2, (rowT p s x.1 (s.length + 1)).map AV.bool)]⟩) (fun x => x.1 ≤ p.length) (fun x => p.length - x.1) (0, b) (by simp) (Le_lit (by simp [LeL, lk, ← rowT_first])) ?_
  rintro ⟨i, d⟩ h1
  simp only at h1
  simp only [↓Ed, Eu, ↓reduceIte, reduceCtorEq, Nat.reduceAdd, Nat.reduceEqDiff, Nat.reduceLT, Nat.reduceLeDiff, Int.reduceToNat, Int.reduceEq, Int.reduceLT, Int.reduceLE, w64, st_nil, List.length_map, List.length_set, rowT_len, RK_ldbool, sp_bool, Nat.mul_one, tn1, tk1, u8eq, u42, u63, flat1, List.length_replicate]
  repeat' ((first | refine NewB_intro0 (fun b => ?_) | (refine NewB_intro (fun b hb => ?_); simp only [ln_cons2, ln_nil, and_true] at hb) | (with_reducible apply And.intro; (focus (first | omega | (simp only [Fact, Bool.not_eq_true', Bool.not_eq_false', decide_eq_true_eq, decide_eq_false_iff_not] at *; omega)))) | ((first | refine gW_sp ?_ | refine condW_sp ?_ | refine pickW_sp ?_); (try refine Sp_n ?_); (first | refine Sp_t (by assumption) ?_ | refine Sp_f (by assumption) ?_ | refine Sp_split (fun h => ?_) (fun h => ?_)) <;> (first | have h' := Fact_lt h | have h' := Fact_nlt h | have h' := Fact_le h | have h' := Fact_nle h | skip) <;> (try (exfalso; omega))) | refine TreeW_intro (by rfl) ?_ | refine TreeW_all ?_ | refine upQ_intro ?_ | refine Two_intro ?_ ?_ | (refine leK_lit ?_; (simp [-List.getD_eq_getElem?_getD, LeL, lk, *]; done)) | (refine leK_dd ?_; (simp [-List.getD_eq_getElem?_getD, LeS, LeL, lk, *]; done)) | (simp only [Fact, Bool.not_eq_true', Bool.not_eq_false', decide_eq_true_eq, decide_eq_false_iff_not] at *; refine leK_dd ?_; (simp [-List.getD_eq_getElem?_getD, LeS, LeL, lk, *]; done)) | (show (_ : Nat) ≤ _; omega)) <;> (try simp (disch := omega) only [*, ↓Ed, Eu, ↓reduceIte, reduceCtorEq, Nat.reduceAdd, Nat.reduceEqDiff, Nat.reduceLT, Nat.reduceLeDiff, Int.reduceToNat, Int.reduceEq, Int.reduceLT, Int.reduceLE, w64, st_nil, List.length_map, List.length_set, rowT_len, RK_ldbool, sp_bool, Nat.mul_one, tn1, tk1, u8eq, u42, u63, flat1, List.length_replicate]))
  rotate_left
  · obtain rfl : i = p.length := by omega
    exact rowT_end p s
  refine wpx_loop (fun k : Nat => ⟨lk [(0, .str p), (1, .str s), (5, .osl d 0 (s.length + 1)), (6, .int .i64 (i : Int)), (7, .osl b 0 (s.length + 1)), (8, .int .i64 (k : Int))], lk [(d, (rowT p s i (s.length + 1)).map AV.bool), (b, (rowT p s (i + 1) k).map AV.bool)]⟩) (fun k => k ≤ s.length + 1) (fun k => s.length + 1 - k) 0 (by simp) (Le_lit (by simp [LeL, lk, rowT_0, hb])) ?_
  intro k h2
  simp only [↓Ed, Eu, ↓reduceIte, reduceCtorEq, Nat.reduceAdd, Nat.reduceEqDiff, Nat.reduceLT, Nat.reduceLeDiff, Int.reduceToNat, Int.reduceEq, Int.reduceLT, Int.reduceLE, w64, st_nil, List.length_map, List.length_set, rowT_len, RK_ldbool, sp_bool, Nat.mul_one, tn1, tk1, u8eq, u42, u63, flat1, List.length_replicate]
  repeat' ((first | refine NewB_intro0 (fun b => ?_) | (refine NewB_intro (fun b hb => ?_); simp only [ln_cons2, ln_nil, and_true] at hb) | (with_reducible apply And.intro; (focus (first | omega | (simp only [Fact, Bool.not_eq_true', Bool.not_eq_false', decide_eq_true_eq, decide_eq_false_iff_not] at *; omega)))) | ((first | refine gW_sp ?_ | refine condW_sp ?_ | refine pickW_sp ?_); (try refine Sp_n ?_); (first | refine Sp_t (by assumption) ?_ | refine Sp_f (by assumption) ?_ | refine Sp_split (fun h => ?_) (fun h => ?_)) <;> (first | have h' := Fact_lt h | have h' := Fact_nlt h | have h' := Fact_le h | have h' := Fact_nle h | skip) <;> (try (exfalso; omega))) | refine TreeW_intro (by rfl) ?_ | refine TreeW_all ?_ | refine upQ_intro ?_ | refine Two_intro ?_ ?_ | (refine leK_lit ?_; (simp [-List.getD_eq_getElem?_getD, LeL, lk, *]; done)) | (refine leK_dd ?_; (simp [-List.getD_eq_getElem?_getD, LeS, LeL, lk, *]; done)) | (simp only [Fact, Bool.not_eq_true', Bool.not_eq_false', decide_eq_true_eq, decide_eq_false_iff_not] at *; refine leK_dd ?_; (simp [-List.getD_eq_getElem?_getD, LeS, LeL, lk, *]; done)) | (show (_ : Nat) ≤ _; omega)) <;> (try simp (disch := omega) only [*, ↓Ed, Eu, ↓reduceIte, reduceCtorEq, Nat.reduceAdd, Nat.reduceEqDiff, Nat.reduceLT, Nat.reduceLeDiff, Int.reduceToNat, Int.reduceEq, Int.reduceLT, Int.reduceLE, w64, st_nil, List.length_map, List.length_set, rowT_len, RK_ldbool, sp_bool, Nat.mul_one, tn1, tk1, u8eq, u42, u63, flat1, List.length_replicate]))
  all_goals (try simp only [Fact, Bool.not_eq_true', Bool.not_eq_false', decide_eq_true_eq, decide_eq_false_iff_not] at *)
  rotate_right
  · obtain rfl : k = s.length + 1 := by omega
    exact Round_lit (i + 1, b) ⟨Le_lit (by simp [LeL, lk, hb]), by simp only; omega, by simp only; omega⟩
  all_goals (have hk0 : 0 < k ∨ k = 0 := by omega)
  all_goals (have hik : i < p.length := by omega)
  all_goals (have hks : k ≤ s.length := by omega)
  · have e := row_star (p := p) (s := s) true hik hks (by assumption) (by simp_all)
    exact Round_lit (k + 1) ⟨Le_lit (by simp [LeL, lk, hb, ← e]), by omega, by omega⟩
  · have e := row_star (p := p) (s := s) ((rowT p s (i + 1) k).getD (k - 1) false) hik hks (by assumption) (by simp_all)
    exact Round_lit (k + 1) ⟨Le_lit (by simp [LeL, lk, hb, ← e]), by omega, by omega⟩
  · have e := row_star (p := p) (s := s) false hik hks (by assumption) (by simp_all)
    exact Round_lit (k + 1) ⟨Le_lit (by simp [LeL, lk, hb, ← e]), by omega, by omega⟩
  · have e := row_char (p := p) (s := s) true hik hks (by assumption) (by simp_all)
    exact Round_lit (k + 1) ⟨Le_lit (by simp [LeL, lk, hb, ← e]), by omega, by omega⟩
  · have e := row_char (p := p) (s := s) (decide (p.getD i 0 = s.getD (k - 1) 0)) hik hks (by assumption) (by simp_all)
    exact Round_lit (k + 1) ⟨Le_lit (by simp [LeL, lk, hb, ← e]), by omega, by omega⟩
  · have e := row_char (p := p) (s := s) false hik hks (by assumption) (by simp_all)
    exact Round_lit (k + 1) ⟨Le_lit (by simp [LeL, lk, hb, ← e]), by omega, by omega⟩
  · have e := row_char (p := p) (s := s) false hik hks (by assumption) (by simp_all)
    exact Round_lit (k + 1) ⟨Le_lit (by simp [LeL, lk, hb, ← e]), by omega, by omega⟩
end Go.Proofs.YtlefegihikpilaaDoor

/- chapter 21: light configurations; which paths the rules let through -/
namespace Go.Proofs.YtlefegihikpilaaDoor
set_option linter.all false
open Go.RowKit
set_option maxRecDepth 100000
theorem p_LightConf (c : Conf) (p1 r1 : AV) (h1 : p1.alias = .sl none 5 (pths c.ps)) (h2 : r1.alias = .sl none 2 (rls c.rs)) (l1 : c.ps.length ≤ maxLen) (l2 : c.rs.length ≤ maxLen) :
    CP Tryd.prog 9 [.agg (cfX c p1 r1)] (.bool (lightC c)) := by
  have hm : maxLen = 9223372036854775807 := rfl
  refine ok_ligkeep_LightConf _ _ (by simp) ?_
  by_cases H : c.a.length ≤ 60 ∧ c.b.length ≤ 60 ∧ c.ps.length ≤ 10 ∧ c.rs.length ≤ 40
  rotate_left
  · have e : lightC c = false := by simp only [lightC, decide_eq_false H, Bool.false_and]
    rw [e]
    have F : Fact (¬ (c.a.length ≤ 60 ∧ c.b.length ≤ 60 ∧ c.ps.length ≤ 10 ∧ c.rs.length ≤ 40)) := H
    clear H e
    simp only [c_ligkeep_LightConf, ↓Ed, Eu, ↓reduceIte, reduceCtorEq, Nat.reduceAdd, Nat.reduceEqDiff, Nat.reduceLT, Nat.reduceLeDiff, Int.reduceToNat, Int.reduceEq, Int.reduceLT, Int.reduceLE, Int.toNat_natCast, al_so, al_al, al_pc, al_rc, al_pst, al_rst, w64, List.length_append, List.length_map, Nat.mul_one, beq_self_eq_true, Lim.cs, PathC.cs, RuleC.cs, gdP, gdR]
    repeat' ((first | refine NewB_intro0 (fun b => ?_) | (refine NewB_intro (fun b hb => ?_); simp only [ln_cons2, ln_nil, and_true] at hb) | (with_reducible apply And.intro; (focus (first | omega | (simp only [Fact, Bool.not_eq_true', Bool.not_eq_false', decide_eq_true_eq, decide_eq_false_iff_not] at *; omega)))) | ((first | refine gW_sp ?_ | refine condW_sp ?_ | refine pickW_sp ?_); (try refine Sp_n ?_); (first | refine Sp_t (by assumption) ?_ | refine Sp_f (by assumption) ?_ | refine Sp_split (fun h => ?_) (fun h => ?_)) <;> (first | have h' := Fact_lt h | have h' := Fact_nlt h | have h' := Fact_le h | have h' := Fact_nle h | skip) <;> (try (exfalso; omega))) | refine TreeW_intro (by rfl) ?_ | refine TreeW_all ?_ | refine upQ_intro ?_ | refine Two_intro ?_ ?_ | (refine leK_lit ?_; (simp [-List.getD_eq_getElem?_getD, LeL, lk, *]; done)) | (refine leK_dd ?_; (simp [-List.getD_eq_getElem?_getD, LeS, LeL, lk, *]; done)) | (simp only [Fact, Bool.not_eq_true', Bool.not_eq_false', decide_eq_true_eq, decide_eq_false_iff_not] at *; refine leK_dd ?_; (simp [-List.getD_eq_getElem?_getD, LeS, LeL, lk, *]; done)) | (show (_ : Nat) ≤ _; omega)) <;> (try simp (disch := omega) only [*, ↓Ed, Eu, ↓reduceIte, reduceCtorEq, Nat.reduceAdd, Nat.reduceEqDiff, Nat.reduceLT, Nat.reduceLeDiff, Int.reduceToNat, Int.reduceEq, Int.reduceLT, Int.reduceLE, Int.toNat_natCast, al_so, al_al, al_pc, al_rc, al_pst, al_rst, w64, List.length_append, List.length_map, Nat.mul_one, beq_self_eq_true, Lim.cs, PathC.cs, RuleC.cs, gdP, gdR]))
    all_goals (exfalso; simp only [Fact, Bool.not_eq_true', Bool.not_eq_false', decide_eq_true_eq, decide_eq_false_iff_not] at *; omega)
  have e : lightC c = ((c.ps.all fun p => decide (p.ap.length ≤ 60 ∧ p.bp.length ≤ 60)) && (c.rs.all fun r => decide (r.pt.length ≤ 60))) := by simp only [lightC, decide_eq_true H, Bool.true_and]
  rw [e]
  have f1 : Fact (decide (60 < (c.a.length : Int)) = false) := by simp only [Fact, Bool.not_eq_true', Bool.not_eq_false', decide_eq_true_eq, decide_eq_false_iff_not]; omega
  have f2 : Fact (decide (60 < (c.b.length : Int)) = false) := by simp only [Fact, Bool.not_eq_true', Bool.not_eq_false', decide_eq_true_eq, decide_eq_false_iff_not]; omega
  have f3 : Fact (decide (10 < (c.ps.length : Int)) = false) := by simp only [Fact, Bool.not_eq_true', Bool.not_eq_false', decide_eq_true_eq, decide_eq_false_iff_not]; omega
  have f4 : Fact (decide (40 < (c.rs.length : Int)) = false) := by simp only [Fact, Bool.not_eq_true', Bool.not_eq_false', decide_eq_true_eq, decide_eq_false_iff_not]; omega
  clear H e
  simp only [c_ligkeep_LightConf, ↓Ed, Eu, ↓reduceIte, reduceCtorEq, Nat.reduceAdd, Nat.reduceEqDiff, Nat.reduceLT, Nat.reduceLeDiff, Int.reduceToNat, Int.reduceEq, Int.reduceLT, Int.reduceLE, Int.toNat_natCast, al_so, al_al, al_pc, al_rc, al_pst, al_rst, w64, List.length_append, List.length_map, Nat.mul_one, beq_self_eq_true, Lim.cs, PathC.cs, RuleC.cs, gdP, gdR]
  repeat' ((first | refine NewB_intro0 (fun b => ?_) | (refine NewB_intro (fun b hb => ?_); simp only [ln_cons2, ln_nil, and_true] at hb) | (with_reducible apply And.intro; (focus (first | omega | (simp only [Fact, Bool.not_eq_true', Bool.not_eq_false', decide_eq_true_eq, decide_eq_false_iff_not] at *; omega)))) | ((first | refine gW_sp ?_ | refine condW_sp ?_ | refine pickW_sp ?_); (try refine Sp_n ?_); (first | refine Sp_t (by assumption) ?_ | refine Sp_f (by assumption) ?_ | refine Sp_split (fun h => ?_) (fun h => ?_)) <;> (first | have h' := Fact_lt h | have h' := Fact_nlt h | have h' := Fact_le h | have h' := Fact_nle h | skip) <;> (try (exfalso; omega))) | refine TreeW_intro (by rfl) ?_ | refine TreeW_all ?_ | refine upQ_intro ?_ | refine Two_intro ?_ ?_ | (refine leK_lit ?_; (simp [-List.getD_eq_getElem?_getD, LeL, lk, *]; done)) | (refine leK_dd ?_; (simp [-List.getD_eq_getElem?_getD, LeS, LeL, lk, *]; done)) | (simp only [Fact, Bool.not_eq_true', Bool.not_eq_false', decide_eq_true_eq, decide_eq_false_iff_not] at *; refine leK_dd ?_; (simp [-List.getD_eq_getElem?_getD, LeS, LeL, lk, *]; done)) | (show (_ : Nat) ≤ _; omega)) <;> (try simp (disch := omega) only [*, ↓Ed, Eu, ↓reduceIte, reduceCtorEq, Nat.reduceAdd, Nat.reduceEqDiff, Nat.reduceLT, Nat.reduceLeDiff, Int.reduceToNat, Int.reduceEq, Int.reduceLT, Int.reduceLE, Int.toNat_natCast, al_so, al_al, al_pc, al_rc, al_pst, al_rst, w64, List.length_append, List.length_map, Nat.mul_one, beq_self_eq_true, Lim.cs, PathC.cs, RuleC.cs, gdP, gdR]))
  refine wpx_loop (fun k : Nat => ⟨lk [(1, .ptr b 0), (3, .int .i64 (k : Int))], lk [(b, [.str c.a, .str c.b, .int .i64 c.la.g, .int .i64 c.la.b, .int .i64 c.la.n, .int .i64 c.lb.g, .int .i64 c.lb.b, .int .i64 c.lb.n, p1.store, r1.store, .int .i64 c.iv])]⟩) (fun k => k ≤ c.ps.length ∧ Fact (((c.ps.take k).all fun p => decide (p.ap.length ≤ 60 ∧ p.bp.length ≤ 60)) = true)) (fun k => c.ps.length - k) 0 ⟨by omega, by simp [Fact]⟩ (Le_lit (by simp [LeL, lk])) ?_
  rintro k ⟨g1, g2⟩
  by_cases hk : k < c.ps.length
  · have f5 : Fact (decide ((k : Int) < c.ps.length) = true) := by simp only [Fact, Bool.not_eq_true', Bool.not_eq_false', decide_eq_true_eq, decide_eq_false_iff_not]; omega
    by_cases he : (c.ps.getD k default).ap.length ≤ 60 ∧ (c.ps.getD k default).bp.length ≤ 60
    · have f6 : Fact (decide (60 < ((c.ps.getD k default).ap.length : Int)) = false) := by simp only [Fact, Bool.not_eq_true', Bool.not_eq_false', decide_eq_true_eq, decide_eq_false_iff_not]; omega
      have f7 : Fact (decide (60 < ((c.ps.getD k default).bp.length : Int)) = false) := by simp only [Fact, Bool.not_eq_true', Bool.not_eq_false', decide_eq_true_eq, decide_eq_false_iff_not]; omega
      have hn : ((c.ps.take (k + 1)).all fun p => decide (p.ap.length ≤ 60 ∧ p.bp.length ≤ 60)) = true := by rw [all_take hk, show _ = true from g2, decide_eq_true he]; rfl
      have hN : Fact (((c.ps.take (k + 1)).all fun p => decide (p.ap.length ≤ 60 ∧ p.bp.length ≤ 60)) = true) := hn
      clear he hn
      simp (disch := omega) only [h1, h2, ↓Ed, Eu, ↓reduceIte, reduceCtorEq, Nat.reduceAdd, Nat.reduceEqDiff, Nat.reduceLT, Nat.reduceLeDiff, Int.reduceToNat, Int.reduceEq, Int.reduceLT, Int.reduceLE, Int.toNat_natCast, al_so, al_al, al_pc, al_rc, al_pst, al_rst, w64, List.length_append, List.length_map, Nat.mul_one, beq_self_eq_true, Lim.cs, PathC.cs, RuleC.cs, gdP, gdR]
      repeat' ((first | refine NewB_intro0 (fun b => ?_) | (refine NewB_intro (fun b hb => ?_); simp only [ln_cons2, ln_nil, and_true] at hb) | (with_reducible apply And.intro; (focus (first | omega | (simp only [Fact, Bool.not_eq_true', Bool.not_eq_false', decide_eq_true_eq, decide_eq_false_iff_not] at *; omega)))) | ((first | refine gW_sp ?_ | refine condW_sp ?_ | refine pickW_sp ?_); (try refine Sp_n ?_); (first | refine Sp_t (by assumption) ?_ | refine Sp_f (by assumption) ?_ | refine Sp_split (fun h => ?_) (fun h => ?_)) <;> (first | have h' := Fact_lt h | have h' := Fact_nlt h | have h' := Fact_le h | have h' := Fact_nle h | skip) <;> (try (exfalso; omega))) | refine TreeW_intro (by rfl) ?_ | refine TreeW_all ?_ | refine upQ_intro ?_ | refine Two_intro ?_ ?_ | (refine leK_lit ?_; (simp [-List.getD_eq_getElem?_getD, LeL, lk, *]; done)) | (refine leK_dd ?_; (simp [-List.getD_eq_getElem?_getD, LeS, LeL, lk, *]; done)) | (simp only [Fact, Bool.not_eq_true', Bool.not_eq_false', decide_eq_true_eq, decide_eq_false_iff_not] at *; refine leK_dd ?_; (simp [-List.getD_eq_getElem?_getD, LeS, LeL, lk, *]; done)) | (show (_ : Nat) ≤ _; omega)) <;> (try simp (disch := omega) only [*, ↓Ed, Eu, ↓reduceIte, reduceCtorEq, Nat.reduceAdd, Nat.reduceEqDiff, Nat.reduceLT, Nat.reduceLeDiff, Int.reduceToNat, Int.reduceEq, Int.reduceLT, Int.reduceLE, Int.toNat_natCast, al_so, al_al, al_pc, al_rc, al_pst, al_rst, w64, List.length_append, List.length_map, Nat.mul_one, beq_self_eq_true, Lim.cs, PathC.cs, RuleC.cs, gdP, gdR]))
      exact Round_lit (k + 1) ⟨Le_lit (by simp [LeL, lk]), ⟨by omega, hN⟩, by omega⟩
    · rw [all_bad (l := c.ps) hk (decide_eq_false he), Bool.false_and]
      have F : Fact (¬ ((c.ps.getD k default).ap.length ≤ 60 ∧ (c.ps.getD k default).bp.length ≤ 60)) := he
      clear he g2
      simp (disch := omega) only [h1, h2, ↓Ed, Eu, ↓reduceIte, reduceCtorEq, Nat.reduceAdd, Nat.reduceEqDiff, Nat.reduceLT, Nat.reduceLeDiff, Int.reduceToNat, Int.reduceEq, Int.reduceLT, Int.reduceLE, Int.toNat_natCast, al_so, al_al, al_pc, al_rc, al_pst, al_rst, w64, List.length_append, List.length_map, Nat.mul_one, beq_self_eq_true, Lim.cs, PathC.cs, RuleC.cs, gdP, gdR]
      repeat' ((first | refine NewB_intro0 (fun b => ?_) | (refine NewB_intro (fun b hb => ?_); simp only [ln_cons2, ln_nil, and_true] at hb) | (with_reducible apply And.intro; (focus (first | omega | (simp only [Fact, Bool.not_eq_true', Bool.not_eq_false', decide_eq_true_eq, decide_eq_false_iff_not] at *; omega)))) | ((first | refine gW_sp ?_ | refine condW_sp ?_ | refine pickW_sp ?_); (try refine Sp_n ?_); (first | refine Sp_t (by assumption) ?_ | refine Sp_f (by assumption) ?_ | refine Sp_split (fun h => ?_) (fun h => ?_)) <;> (first | have h' := Fact_lt h | have h' := Fact_nlt h | have h' := Fact_le h | have h' := Fact_nle h | skip) <;> (try (exfalso; omega))) | refine TreeW_intro (by rfl) ?_ | refine TreeW_all ?_ | refine upQ_intro ?_ | refine Two_intro ?_ ?_ | (refine leK_lit ?_; (simp [-List.getD_eq_getElem?_getD, LeL, lk, *]; done)) | (refine leK_dd ?_; (simp [-List.getD_eq_getElem?_getD, LeS, LeL, lk, *]; done)) | (simp only [Fact, Bool.not_eq_true', Bool.not_eq_false', decide_eq_true_eq, decide_eq_false_iff_not] at *; refine leK_dd ?_; (simp [-List.getD_eq_getElem?_getD, LeS, LeL, lk, *]; done)) | (show (_ : Nat) ≤ _; omega)) <;> (try simp (disch := omega) only [*, ↓Ed, Eu, ↓reduceIte, reduceCtorEq, Nat.reduceAdd, Nat.reduceEqDiff, Nat.reduceLT, Nat.reduceLeDiff, Int.reduceToNat, Int.reduceEq, Int.reduceLT, Int.reduceLE, Int.toNat_natCast, al_so, al_al, al_pc, al_rc, al_pst, al_rst, w64, List.length_append, List.length_map, Nat.mul_one, beq_self_eq_true, Lim.cs, PathC.cs, RuleC.cs, gdP, gdR]))
      all_goals (exfalso; simp only [Fact, Bool.not_eq_true', Bool.not_eq_false', decide_eq_true_eq, decide_eq_false_iff_not] at *; omega)
  have f5 : Fact (decide ((k : Int) < c.ps.length) = false) := by simp only [Fact, Bool.not_eq_true', Bool.not_eq_false', decide_eq_true_eq, decide_eq_false_iff_not]; omega
  have hA : (c.ps.all fun p => decide (p.ap.length ≤ 60 ∧ p.bp.length ≤ 60)) = true := by simp only [Fact] at g2; rw [List.take_of_length_le (by omega)] at g2; exact g2
  rw [hA, Bool.true_and]
  clear hA g2
  simp (disch := omega) only [h1, h2, ↓Ed, Eu, ↓reduceIte, reduceCtorEq, Nat.reduceAdd, Nat.reduceEqDiff, Nat.reduceLT, Nat.reduceLeDiff, Int.reduceToNat, Int.reduceEq, Int.reduceLT, Int.reduceLE, Int.toNat_natCast, al_so, al_al, al_pc, al_rc, al_pst, al_rst, w64, List.length_append, List.length_map, Nat.mul_one, beq_self_eq_true, Lim.cs, PathC.cs, RuleC.cs, gdP, gdR]
  repeat' ((first | refine NewB_intro0 (fun b => ?_) | (refine NewB_intro (fun b hb => ?_); simp only [ln_cons2, ln_nil, and_true] at hb) | (with_reducible apply And.intro; (focus (first | omega | (simp only [Fact, Bool.not_eq_true', Bool.not_eq_false', decide_eq_true_eq, decide_eq_false_iff_not] at *; omega)))) | ((first | refine gW_sp ?_ | refine condW_sp ?_ | refine pickW_sp ?_); (try refine Sp_n ?_); (first | refine Sp_t (by assumption) ?_ | refine Sp_f (by assumption) ?_ | refine Sp_split (fun h => ?_) (fun h => ?_)) <;> (first | have h' := Fact_lt h | have h' := Fact_nlt h | have h' := Fact_le h | have h' := Fact_nle h | skip) <;> (try (exfalso; omega))) | refine TreeW_intro (by rfl) ?_ | refine TreeW_all ?_ | refine upQ_intro ?_ | refine Two_intro ?_ ?_ | (refine leK_lit ?_; (simp [-List.getD_eq_getElem?_getD, LeL, lk, *]; done)) | (refine leK_dd ?_; (simp [-List.getD_eq_getElem?_getD, LeS, LeL, lk, *]; done)) | (simp only [Fact, Bool.not_eq_true', Bool.not_eq_false', decide_eq_true_eq, decide_eq_false_iff_not] at *; refine leK_dd ?_; (simp [-List.getD_eq_getElem?_getD, LeS, LeL, lk, *]; done)) | (show (_ : Nat) ≤ _; omega)) <;> (try simp (disch := omega) only [*, ↓Ed, Eu, ↓reduceIte, reduceCtorEq, Nat.reduceAdd, Nat.reduceEqDiff, Nat.reduceLT, Nat.reduceLeDiff, Int.reduceToNat, Int.reduceEq, Int.reduceLT, Int.reduceLE, Int.toNat_natCast, al_so, al_al, al_pc, al_rc, al_pst, al_rst, w64, List.length_append, List.length_map, Nat.mul_one, beq_self_eq_true, Lim.cs, PathC.cs, RuleC.cs, gdP, gdR]))
  clear f5 g1 hk
  refine wpx_loop (fun k : Nat => ⟨lk [(1, .ptr b 0), (4, .int .i64 (k : Int))], lk [(b, [.str c.a, .str c.b, .int .i64 c.la.g, .int .i64 c.la.b, .int .i64 c.la.n, .int .i64 c.lb.g, .int .i64 c.lb.b, .int .i64 c.lb.n, p1.store, r1.store, .int .i64 c.iv])]⟩) (fun k => k ≤ c.rs.length ∧ Fact (((c.rs.take k).all fun r => decide (r.pt.length ≤ 60)) = true)) (fun k => c.rs.length - k) 0 ⟨by omega, by simp [Fact]⟩ (Le_lit (by simp [LeL, lk])) ?_
  rintro k ⟨g1, g2⟩
  by_cases hk : k < c.rs.length
  · have f5 : Fact (decide ((k : Int) < c.rs.length) = true) := by simp only [Fact, Bool.not_eq_true', Bool.not_eq_false', decide_eq_true_eq, decide_eq_false_iff_not]; omega
    by_cases he : (c.rs.getD k default).pt.length ≤ 60
    · have f6 : Fact (decide (60 < ((c.rs.getD k default).pt.length : Int)) = false) := by simp only [Fact, Bool.not_eq_true', Bool.not_eq_false', decide_eq_true_eq, decide_eq_false_iff_not]; omega
      have hn : ((c.rs.take (k + 1)).all fun r => decide (r.pt.length ≤ 60)) = true := by rw [all_take hk, show _ = true from g2, decide_eq_true he]; rfl
      have hN : Fact (((c.rs.take (k + 1)).all fun r => decide (r.pt.length ≤ 60)) = true) := hn
      clear he hn
      simp (disch := omega) only [h1, h2, ↓Ed, Eu, ↓reduceIte, reduceCtorEq, Nat.reduceAdd, Nat.reduceEqDiff, Nat.reduceLT, Nat.reduceLeDiff, Int.reduceToNat, Int.reduceEq, Int.reduceLT, Int.reduceLE, Int.toNat_natCast, al_so, al_al, al_pc, al_rc, al_pst, al_rst, w64, List.length_append, List.length_map, Nat.mul_one, beq_self_eq_true, Lim.cs, PathC.cs, RuleC.cs, gdP, gdR]
      repeat' ((first | refine NewB_intro0 (fun b => ?_) | (refine NewB_intro (fun b hb => ?_); simp only [ln_cons2, ln_nil, and_true] at hb) | (with_reducible apply And.intro; (focus (first | omega | (simp only [Fact, Bool.not_eq_true', Bool.not_eq_false', decide_eq_true_eq, decide_eq_false_iff_not] at *; omega)))) | ((first | refine gW_sp ?_ | refine condW_sp ?_ | refine pickW_sp ?_); (try refine Sp_n ?_); (first | refine Sp_t (by assumption) ?_ | refine Sp_f (by assumption) ?_ | refine Sp_split (fun h => ?_) (fun h => ?_)) <;> (first | have h' := Fact_lt h | have h' := Fact_nlt h | have h' := Fact_le h | have h' := Fact_nle h | skip) <;> (try (exfalso; omega))) | refine TreeW_intro (by rfl) ?_ | refine TreeW_all ?_ | refine upQ_intro ?_ | refine Two_intro ?_ ?_ | (refine leK_lit ?_; (simp [-List.getD_eq_getElem?_getD, LeL, lk, *]; done)) | (refine leK_dd ?_; (simp [-List.getD_eq_getElem?_getD, LeS, LeL, lk, *]; done)) | (simp only [Fact, Bool.not_eq_true', Bool.not_eq_false', decide_eq_true_eq, decide_eq_false_iff_not] at *; refine leK_dd ?_; (simp [-List.getD_eq_getElem?_getD, LeS, LeL, lk, *]; done)) | (show (_ : Nat) ≤ _; omega)) <;> (try simp (disch := omega) only [*, ↓Ed, Eu, ↓reduceIte, reduceCtorEq, Nat.reduceAdd, Nat.reduceEqDiff, Nat.reduceLT, Nat.reduceLeDiff, Int.reduceToNat, Int.reduceEq, Int.reduceLT, Int.reduceLE, Int.toNat_natCast, al_so, al_al, al_pc, al_rc, al_pst, al_rst, w64, List.length_append, List.length_map, Nat.mul_one, beq_self_eq_true, Lim.cs, PathC.cs, RuleC.cs, gdP, gdR]))
      exact Round_lit (k + 1) ⟨Le_lit (by simp [LeL, lk]), ⟨by omega, hN⟩, by omega⟩
    · rw [all_bad (l := c.rs) hk (decide_eq_false he)]
      have f6 : Fact (decide (60 < ((c.rs.getD k default).pt.length : Int)) = true) := by simp only [Fact, Bool.not_eq_true', Bool.not_eq_false', decide_eq_true_eq, decide_eq_false_iff_not]; omega
      clear he g2
      simp (disch := omega) only [h1, h2, ↓Ed, Eu, ↓reduceIte, reduceCtorEq, Nat.reduceAdd, Nat.reduceEqDiff, Nat.reduceLT, Nat.reduceLeDiff, Int.reduceToNat, Int.reduceEq, Int.reduceLT, Int.reduceLE, Int.toNat_natCast, al_so, al_al, al_pc, al_rc, al_pst, al_rst, w64, List.length_append, List.length_map, Nat.mul_one, beq_self_eq_true, Lim.cs, PathC.cs, RuleC.cs, gdP, gdR]
      repeat' ((first | refine NewB_intro0 (fun b => ?_) | (refine NewB_intro (fun b hb => ?_); simp only [ln_cons2, ln_nil, and_true] at hb) | (with_reducible apply And.intro; (focus (first | omega | (simp only [Fact, Bool.not_eq_true', Bool.not_eq_false', decide_eq_true_eq, decide_eq_false_iff_not] at *; omega)))) | ((first | refine gW_sp ?_ | refine condW_sp ?_ | refine pickW_sp ?_); (try refine Sp_n ?_); (first | refine Sp_t (by assumption) ?_ | refine Sp_f (by assumption) ?_ | refine Sp_split (fun h => ?_) (fun h => ?_)) <;> (first | have h' := Fact_lt h | have h' := Fact_nlt h | have h' := Fact_le h | have h' := Fact_nle h | skip) <;> (try (exfalso; omega))) | refine TreeW_intro (by rfl) ?_ | refine TreeW_all ?_ | refine upQ_intro ?_ | refine Two_intro ?_ ?_ | (refine leK_lit ?_; (simp [-List.getD_eq_getElem?_getD, LeL, lk, *]; done)) | (refine leK_dd ?_; (simp [-List.getD_eq_getElem?_getD, LeS, LeL, lk, *]; done)) | (simp only [Fact, Bool.not_eq_true', Bool.not_eq_false', decide_eq_true_eq, decide_eq_false_iff_not] at *; refine leK_dd ?_; (simp [-List.getD_eq_getElem?_getD, LeS, LeL, lk, *]; done)) | (show (_ : Nat) ≤ _; omega)) <;> (try simp (disch := omega) only [*, ↓Ed, Eu, ↓reduceIte, reduceCtorEq, Nat.reduceAdd, Nat.reduceEqDiff, Nat.reduceLT, Nat.reduceLeDiff, Int.reduceToNat, Int.reduceEq, Int.reduceLT, Int.reduceLE, Int.toNat_natCast, al_so, al_al, al_pc, al_rc, al_pst, al_rst, w64, List.length_append, List.length_map, Nat.mul_one, beq_self_eq_true, Lim.cs, PathC.cs, RuleC.cs, gdP, gdR]))
  have f5 : Fact (decide ((k : Int) < c.rs.length) = false) := by simp only [Fact, Bool.not_eq_true', Bool.not_eq_false', decide_eq_true_eq, decide_eq_false_iff_not]; omega
  have hA : (c.rs.all fun r => decide (r.pt.length ≤ 60)) = true := by simp only [Fact] at g2; rw [List.take_of_length_le (by omega)] at g2; exact g2
  rw [hA]
  clear hA g2
  simp (disch := omega) only [h1, h2, ↓Ed, Eu, ↓reduceIte, reduceCtorEq, Nat.reduceAdd, Nat.reduceEqDiff, Nat.reduceLT, Nat.reduceLeDiff, Int.reduceToNat, Int.reduceEq, Int.reduceLT, Int.reduceLE, Int.toNat_natCast, al_so, al_al, al_pc, al_rc, al_pst, al_rst, w64, List.length_append, List.length_map, Nat.mul_one, beq_self_eq_true, Lim.cs, PathC.cs, RuleC.cs, gdP, gdR]
  repeat' ((first | refine NewB_intro0 (fun b => ?_) | (refine NewB_intro (fun b hb => ?_); simp only [ln_cons2, ln_nil, and_true] at hb) | (with_reducible apply And.intro; (focus (first | omega | (simp only [Fact, Bool.not_eq_true', Bool.not_eq_false', decide_eq_true_eq, decide_eq_false_iff_not] at *; omega)))) | ((first | refine gW_sp ?_ | refine condW_sp ?_ | refine pickW_sp ?_); (try refine Sp_n ?_); (first | refine Sp_t (by assumption) ?_ | refine Sp_f (by assumption) ?_ | refine Sp_split (fun h => ?_) (fun h => ?_)) <;> (first | have h' := Fact_lt h | have h' := Fact_nlt h | have h' := Fact_le h | have h' := Fact_nle h | skip) <;> (try (exfalso; omega))) | refine TreeW_intro (by rfl) ?_ | refine TreeW_all ?_ | refine upQ_intro ?_ | refine Two_intro ?_ ?_ | (refine leK_lit ?_; (simp [-List.getD_eq_getElem?_getD, LeL, lk, *]; done)) | (refine leK_dd ?_; (simp [-List.getD_eq_getElem?_getD, LeS, LeL, lk, *]; done)) | (simp only [Fact, Bool.not_eq_true', Bool.not_eq_false', decide_eq_true_eq, decide_eq_false_iff_not] at *; refine leK_dd ?_; (simp [-List.getD_eq_getElem?_getD, LeS, LeL, lk, *]; done)) | (show (_ : Nat) ≤ _; omega)) <;> (try simp (disch := omega) only [*, ↓Ed, Eu, ↓reduceIte, reduceCtorEq, Nat.reduceAdd, Nat.reduceEqDiff, Nat.reduceLT, Nat.reduceLeDiff, Int.reduceToNat, Int.reduceEq, Int.reduceLT, Int.reduceLE, Int.toNat_natCast, al_so, al_al, al_pc, al_rc, al_pst, al_rst, w64, List.length_append, List.length_map, Nat.mul_one, beq_self_eq_true, Lim.cs, PathC.cs, RuleC.cs, gdP, gdR]))
theorem tr_t (p : List UInt8) (c : Int) : (textP p c).length ≤ 1000000 := by
  unfold textP
  split
  · rename_i h
    have h1 := mayP_t h
    have h2 := dig_len3 ⟨h1.2.1, h1.2.2.1⟩
    simp only [List.length_append, List.length_cons, List.length_nil]; omega
  · simp
theorem p_Lets (c : Conf) (x : PathC) (p1 r1 : AV) (h1 : p1.alias = .sl none 5 (pths c.ps)) (h2 : r1.alias = .sl none 2 (rls c.rs)) (l2 : c.rs.length ≤ maxLen) (sx : x.ap.length ≤ 1000000) (sr : ∀ i, (c.rs.getD i default).pt.length ≤ 1000000) :
    CP Tryd.prog 12 [.agg (cfX c p1 r1), .agg x.cs] (.bool (letsP c.rs (textP x.ap x.ac))) := by
  have hm : maxLen = 9223372036854775807 := rfl
  have hT := p_Text x.ap x.ac sx
  have hM := fun i => p_Match (c.rs.getD i default).pt (textP x.ap x.ac) (sr i) (tr_t _ _)
  clear sr
  refine ok_conf_Lets _ _ (by simp) ?_
  obtain ⟨ap, ac, bp, bc, o⟩ := x
  simp only at hT hM sx
  simp only [c_conf_Lets, ↓Ed, Eu, ↓reduceIte, reduceCtorEq, Nat.reduceAdd, Nat.reduceEqDiff, Nat.reduceLT, Nat.reduceLeDiff, Int.reduceToNat, Int.reduceEq, Int.reduceLT, Int.reduceLE, Int.toNat_natCast, al_so, al_al, al_pc, al_rc, al_pst, al_rst, w64, List.length_append, List.length_map, Nat.mul_one, beq_self_eq_true, Lim.cs, PathC.cs, RuleC.cs, gdP, gdR]
  repeat' ((first | refine NewB_intro0 (fun b => ?_) | (refine NewB_intro (fun b hb => ?_); simp only [ln_cons2, ln_nil, and_true] at hb) | (with_reducible apply And.intro; (focus (first | omega | (simp only [Fact, Bool.not_eq_true', Bool.not_eq_false', decide_eq_true_eq, decide_eq_false_iff_not] at *; omega)))) | ((first | refine gW_sp ?_ | refine condW_sp ?_ | refine pickW_sp ?_); (try refine Sp_n ?_); (first | refine Sp_t (by assumption) ?_ | refine Sp_f (by assumption) ?_ | refine Sp_split (fun h => ?_) (fun h => ?_)) <;> (first | have h' := Fact_lt h | have h' := Fact_nlt h | have h' := Fact_le h | have h' := Fact_nle h | skip) <;> (try (exfalso; omega))) | refine TreeW_intro (by rfl) ?_ | refine TreeW_all ?_ | refine upQ_intro ?_ | refine Two_intro ?_ ?_ | (refine leK_lit ?_; (simp [-List.getD_eq_getElem?_getD, LeL, lk, *]; done)) | (refine leK_dd ?_; (simp [-List.getD_eq_getElem?_getD, LeS, LeL, lk, *]; done)) | (simp only [Fact, Bool.not_eq_true', Bool.not_eq_false', decide_eq_true_eq, decide_eq_false_iff_not] at *; refine leK_dd ?_; (simp [-List.getD_eq_getElem?_getD, LeS, LeL, lk, *]; done)) | (show (_ : Nat) ≤ _; omega)) <;> (try simp (disch := omega) only [*, ↓Ed, Eu, ↓reduceIte, reduceCtorEq, Nat.reduceAdd, Nat.reduceEqDiff, Nat.reduceLT, Nat.reduceLeDiff, Int.reduceToNat, Int.reduceEq, Int.reduceLT, Int.reduceLE, Int.toNat_natCast, al_so, al_al, al_pc, al_rc, al_pst, al_rst, w64, List.length_append, List.length_map, Nat.mul_one, beq_self_eq_true, Lim.cs, PathC.cs, RuleC.cs, gdP, gdR]))
  rename_i b1
  refine wpx_loop (fun k : Nat => ⟨lk [(3, .ptr b 0), (5, .bool ((c.rs.take k).all fun r => !r.al)), (9, .sl none 2 (rls c.rs)), (10, .int .i64 c.rs.length), (11, .int .i64 (k : Int))], lk [(b, [.str ap, .int .i64 ac, .str bp, .int .i64 bc, .bool o])]⟩) (fun k => k ≤ c.rs.length ∧ Fact (((c.rs.take k).all fun r => !matchP r.pt (textP ap ac)) = true)) (fun k => c.rs.length - k) 0 ⟨by omega, by simp [Fact]⟩ (Le_lit (by simp [LeL, lk, hb])) ?_
  rintro k ⟨g1, g2⟩
  by_cases hk : k < c.rs.length
  · have f5 : Fact (decide ((k : Int) < c.rs.length) = true) := by simp only [Fact, Bool.not_eq_true', Bool.not_eq_false', decide_eq_true_eq, decide_eq_false_iff_not]; omega
    have hMk := hM k
    clear hM
    cases hmm : matchP (c.rs.getD k default).pt (textP ap ac) with
    | true =>
      rw [lets_hit hk g2 hmm]
      rw [hmm] at hMk
      clear hmm g2
      simp (disch := omega) only [↓Ed, Eu, ↓reduceIte, reduceCtorEq, Nat.reduceAdd, Nat.reduceEqDiff, Nat.reduceLT, Nat.reduceLeDiff, Int.reduceToNat, Int.reduceEq, Int.reduceLT, Int.reduceLE, Int.toNat_natCast, al_so, al_al, al_pc, al_rc, al_pst, al_rst, w64, List.length_append, List.length_map, Nat.mul_one, beq_self_eq_true, Lim.cs, PathC.cs, RuleC.cs, gdP, gdR]
      repeat' ((first | refine CallW_intro (hT) ?_ | refine CallW_intro (hMk) ?_ | refine NewB_intro0 (fun b => ?_) | (refine NewB_intro (fun b hb => ?_); simp only [ln_cons2, ln_nil, and_true] at hb) | (with_reducible apply And.intro; (focus (first | omega | (simp only [Fact, Bool.not_eq_true', Bool.not_eq_false', decide_eq_true_eq, decide_eq_false_iff_not] at *; omega)))) | ((first | refine gW_sp ?_ | refine condW_sp ?_ | refine pickW_sp ?_); (try refine Sp_n ?_); (first | refine Sp_t (by assumption) ?_ | refine Sp_f (by assumption) ?_ | refine Sp_split (fun h => ?_) (fun h => ?_)) <;> (first | have h' := Fact_lt h | have h' := Fact_nlt h | have h' := Fact_le h | have h' := Fact_nle h | skip) <;> (try (exfalso; omega))) | refine TreeW_intro (by rfl) ?_ | refine TreeW_all ?_ | refine upQ_intro ?_ | refine Two_intro ?_ ?_ | (refine leK_lit ?_; (simp [-List.getD_eq_getElem?_getD, LeL, lk, *]; done)) | (refine leK_dd ?_; (simp [-List.getD_eq_getElem?_getD, LeS, LeL, lk, *]; done)) | (simp only [Fact, Bool.not_eq_true', Bool.not_eq_false', decide_eq_true_eq, decide_eq_false_iff_not] at *; refine leK_dd ?_; (simp [-List.getD_eq_getElem?_getD, LeS, LeL, lk, *]; done)) | (show (_ : Nat) ≤ _; omega)) <;> (try simp (disch := omega) only [*, ↓Ed, Eu, ↓reduceIte, reduceCtorEq, Nat.reduceAdd, Nat.reduceEqDiff, Nat.reduceLT, Nat.reduceLeDiff, Int.reduceToNat, Int.reduceEq, Int.reduceLT, Int.reduceLE, Int.toNat_natCast, al_so, al_al, al_pc, al_rc, al_pst, al_rst, w64, List.length_append, List.length_map, Nat.mul_one, beq_self_eq_true, Lim.cs, PathC.cs, RuleC.cs, gdP, gdR]))
    | false =>
      have hN : Fact (((c.rs.take (k + 1)).all fun r => !matchP r.pt (textP ap ac)) = true) := by
        simp only [Fact] at g2 ⊢
        rw [all_take hk, g2, hmm]; rfl
      have ha := all_take (p := fun r : RuleC => !r.al) hk
      rw [hmm] at hMk
      clear hmm g2
      cases hal : (c.rs.take k).all fun r => !r.al
      all_goals rw [hal] at ha
      all_goals clear hal
      all_goals simp (disch := omega) only [↓Ed, Eu, ↓reduceIte, reduceCtorEq, Nat.reduceAdd, Nat.reduceEqDiff, Nat.reduceLT, Nat.reduceLeDiff, Int.reduceToNat, Int.reduceEq, Int.reduceLT, Int.reduceLE, Int.toNat_natCast, al_so, al_al, al_pc, al_rc, al_pst, al_rst, w64, List.length_append, List.length_map, Nat.mul_one, beq_self_eq_true, Lim.cs, PathC.cs, RuleC.cs, gdP, gdR]
      all_goals repeat' ((first | refine CallW_intro (hT) ?_ | refine CallW_intro (hMk) ?_ | refine NewB_intro0 (fun b => ?_) | (refine NewB_intro (fun b hb => ?_); simp only [ln_cons2, ln_nil, and_true] at hb) | (with_reducible apply And.intro; (focus (first | omega | (simp only [Fact, Bool.not_eq_true', Bool.not_eq_false', decide_eq_true_eq, decide_eq_false_iff_not] at *; omega)))) | ((first | refine gW_sp ?_ | refine condW_sp ?_ | refine pickW_sp ?_); (try refine Sp_n ?_); (first | refine Sp_t (by assumption) ?_ | refine Sp_f (by assumption) ?_ | refine Sp_split (fun h => ?_) (fun h => ?_)) <;> (first | have h' := Fact_lt h | have h' := Fact_nlt h | have h' := Fact_le h | have h' := Fact_nle h | skip) <;> (try (exfalso; omega))) | refine TreeW_intro (by rfl) ?_ | refine TreeW_all ?_ | refine upQ_intro ?_ | refine Two_intro ?_ ?_ | (refine leK_lit ?_; (simp [-List.getD_eq_getElem?_getD, LeL, lk, *]; done)) | (refine leK_dd ?_; (simp [-List.getD_eq_getElem?_getD, LeS, LeL, lk, *]; done)) | (simp only [Fact, Bool.not_eq_true', Bool.not_eq_false', decide_eq_true_eq, decide_eq_false_iff_not] at *; refine leK_dd ?_; (simp [-List.getD_eq_getElem?_getD, LeS, LeL, lk, *]; done)) | (show (_ : Nat) ≤ _; omega)) <;> (try simp (disch := omega) only [*, ↓Ed, Eu, ↓reduceIte, reduceCtorEq, Nat.reduceAdd, Nat.reduceEqDiff, Nat.reduceLT, Nat.reduceLeDiff, Int.reduceToNat, Int.reduceEq, Int.reduceLT, Int.reduceLE, Int.toNat_natCast, al_so, al_al, al_pc, al_rc, al_pst, al_rst, w64, List.length_append, List.length_map, Nat.mul_one, beq_self_eq_true, Lim.cs, PathC.cs, RuleC.cs, gdP, gdR]))
      all_goals exact Round_lit (k + 1) ⟨Le_lit (by simp [LeL, lk, hb, ha]), ⟨by omega, hN⟩, by omega⟩
  have f5 : Fact (decide ((k : Int) < c.rs.length) = false) := by simp only [Fact, Bool.not_eq_true', Bool.not_eq_false', decide_eq_true_eq, decide_eq_false_iff_not]; omega
  have hl : letsP c.rs (textP ap ac) = (c.rs.take k).all fun r => !r.al := by
    simp only [Fact] at g2
    rw [List.take_of_length_le (by omega)] at g2 ⊢
    exact lets_end g2
  rw [hl]
  clear hl g2 hM
  simp (disch := omega) only [↓Ed, Eu, ↓reduceIte, reduceCtorEq, Nat.reduceAdd, Nat.reduceEqDiff, Nat.reduceLT, Nat.reduceLeDiff, Int.reduceToNat, Int.reduceEq, Int.reduceLT, Int.reduceLE, Int.toNat_natCast, al_so, al_al, al_pc, al_rc, al_pst, al_rst, w64, List.length_append, List.length_map, Nat.mul_one, beq_self_eq_true, Lim.cs, PathC.cs, RuleC.cs, gdP, gdR]
  repeat' ((first | refine NewB_intro0 (fun b => ?_) | (refine NewB_intro (fun b hb => ?_); simp only [ln_cons2, ln_nil, and_true] at hb) | (with_reducible apply And.intro; (focus (first | omega | (simp only [Fact, Bool.not_eq_true', Bool.not_eq_false', decide_eq_true_eq, decide_eq_false_iff_not] at *; omega)))) | ((first | refine gW_sp ?_ | refine condW_sp ?_ | refine pickW_sp ?_); (try refine Sp_n ?_); (first | refine Sp_t (by assumption) ?_ | refine Sp_f (by assumption) ?_ | refine Sp_split (fun h => ?_) (fun h => ?_)) <;> (first | have h' := Fact_lt h | have h' := Fact_nlt h | have h' := Fact_le h | have h' := Fact_nle h | skip) <;> (try (exfalso; omega))) | refine TreeW_intro (by rfl) ?_ | refine TreeW_all ?_ | refine upQ_intro ?_ | refine Two_intro ?_ ?_ | (refine leK_lit ?_; (simp [-List.getD_eq_getElem?_getD, LeL, lk, *]; done)) | (refine leK_dd ?_; (simp [-List.getD_eq_getElem?_getD, LeS, LeL, lk, *]; done)) | (simp only [Fact, Bool.not_eq_true', Bool.not_eq_false', decide_eq_true_eq, decide_eq_false_iff_not] at *; refine leK_dd ?_; (simp [-List.getD_eq_getElem?_getD, LeS, LeL, lk, *]; done)) | (show (_ : Nat) ≤ _; omega)) <;> (try simp (disch := omega) only [*, ↓Ed, Eu, ↓reduceIte, reduceCtorEq, Nat.reduceAdd, Nat.reduceEqDiff, Nat.reduceLT, Nat.reduceLeDiff, Int.reduceToNat, Int.reduceEq, Int.reduceLT, Int.reduceLE, Int.toNat_natCast, al_so, al_al, al_pc, al_rc, al_pst, al_rst, w64, List.length_append, List.length_map, Nat.mul_one, beq_self_eq_true, Lim.cs, PathC.cs, RuleC.cs, gdP, gdR]))
theorem p_sLets (c : Conf) (x : PathC) (p1 r1 : AV) (h1 : p1.alias = .sl none 5 (pths c.ps)) (h2 : r1.alias = .sl none 2 (rls c.rs)) (l2 : c.rs.length ≤ maxLen) (sx : x.ap.length ≤ 1000000) (sr : ∀ i, (c.rs.getD i default).pt.length ≤ 1000000) :
    CP Tryd.prog 13 [.agg (cfX c p1 r1), .agg x.cs] (.bool (letsP c.rs (textP x.ap x.ac))) := by
  have hm : maxLen = 9223372036854775807 := rfl
  have hT := p_EndText x.ap x.ac sx
  have hM := fun i => p_rMatch (c.rs.getD i default).pt (textP x.ap x.ac) (sr i) (tr_t _ _)
  clear sr
  refine ok_ligref20_Lets _ _ (by simp) ?_
  obtain ⟨ap, ac, bp, bc, o⟩ := x
  simp only at hT hM sx
  simp only [c_ligref20_Lets, ↓Ed, Eu, ↓reduceIte, reduceCtorEq, Nat.reduceAdd, Nat.reduceEqDiff, Nat.reduceLT, Nat.reduceLeDiff, Int.reduceToNat, Int.reduceEq, Int.reduceLT, Int.reduceLE, Int.toNat_natCast, al_so, al_al, al_pc, al_rc, al_pst, al_rst, w64, List.length_append, List.length_map, Nat.mul_one, beq_self_eq_true, Lim.cs, PathC.cs, RuleC.cs, gdP, gdR]
  repeat' ((first | refine NewB_intro0 (fun b => ?_) | (refine NewB_intro (fun b hb => ?_); simp only [ln_cons2, ln_nil, and_true] at hb) | (with_reducible apply And.intro; (focus (first | omega | (simp only [Fact, Bool.not_eq_true', Bool.not_eq_false', decide_eq_true_eq, decide_eq_false_iff_not] at *; omega)))) | ((first | refine gW_sp ?_ | refine condW_sp ?_ | refine pickW_sp ?_); (try refine Sp_n ?_); (first | refine Sp_t (by assumption) ?_ | refine Sp_f (by assumption) ?_ | refine Sp_split (fun h => ?_) (fun h => ?_)) <;> (first | have h' := Fact_lt h | have h' := Fact_nlt h | have h' := Fact_le h | have h' := Fact_nle h | skip) <;> (try (exfalso; omega))) | refine TreeW_intro (by rfl) ?_ | refine TreeW_all ?_ | refine upQ_intro ?_ | refine Two_intro ?_ ?_ | (refine leK_lit ?_; (simp [-List.getD_eq_getElem?_getD, LeL, lk, *]; done)) | (refine leK_dd ?_; (simp [-List.getD_eq_getElem?_getD, LeS, LeL, lk, *]; done)) | (simp only [Fact, Bool.not_eq_true', Bool.not_eq_false', decide_eq_true_eq, decide_eq_false_iff_not] at *; refine leK_dd ?_; (simp [-List.getD_eq_getElem?_getD, LeS, LeL, lk, *]; done)) | (show (_ : Nat) ≤ _; omega)) <;> (try simp (disch := omega) only [*, ↓Ed, Eu, ↓reduceIte, reduceCtorEq, Nat.reduceAdd, Nat.reduceEqDiff, Nat.reduceLT, Nat.reduceLeDiff, Int.reduceToNat, Int.reduceEq, Int.reduceLT, Int.reduceLE, Int.toNat_natCast, al_so, al_al, al_pc, al_rc, al_pst, al_rst, w64, List.length_append, List.length_map, Nat.mul_one, beq_self_eq_true, Lim.cs, PathC.cs, RuleC.cs, gdP, gdR]))
  rename_i b1
  refine wpx_loop (fun k : Nat => ⟨lk [(2, .ptr b1 0), (3, .ptr b 0), (5, .bool (!((c.rs.take k).all fun r => !r.al))), (6, .int .i64 (k : Int))], lk [(b1, [.str c.a, .str c.b, .int .i64 c.la.g, .int .i64 c.la.b, .int .i64 c.la.n, .int .i64 c.lb.g, .int .i64 c.lb.b, .int .i64 c.lb.n, p1.store, r1.store, .int .i64 c.iv]), (b, [.str ap, .int .i64 ac, .str bp, .int .i64 bc, .bool o])]⟩) (fun k => k ≤ c.rs.length ∧ Fact (((c.rs.take k).all fun r => !matchP r.pt (textP ap ac)) = true)) (fun k => c.rs.length - k) 0 ⟨by omega, by simp [Fact]⟩ (Le_lit (by simp [LeL, lk, hb])) ?_
  rintro k ⟨g1, g2⟩
  by_cases hk : k < c.rs.length
  · have f5 : Fact (decide ((k : Int) < c.rs.length) = true) := by simp only [Fact, Bool.not_eq_true', Bool.not_eq_false', decide_eq_true_eq, decide_eq_false_iff_not]; omega
    have hMk := hM k
    clear hM
    cases hmm : matchP (c.rs.getD k default).pt (textP ap ac) with
    | true =>
      rw [lets_hit hk g2 hmm]
      rw [hmm] at hMk
      clear hmm g2
      simp (disch := omega) only [h1, h2, hb, ↓Ed, Eu, ↓reduceIte, reduceCtorEq, Nat.reduceAdd, Nat.reduceEqDiff, Nat.reduceLT, Nat.reduceLeDiff, Int.reduceToNat, Int.reduceEq, Int.reduceLT, Int.reduceLE, Int.toNat_natCast, al_so, al_al, al_pc, al_rc, al_pst, al_rst, w64, List.length_append, List.length_map, Nat.mul_one, beq_self_eq_true, Lim.cs, PathC.cs, RuleC.cs, gdP, gdR]
      repeat' ((first | refine CallW_intro (hT) ?_ | refine CallW_intro (hMk) ?_ | refine NewB_intro0 (fun b => ?_) | (refine NewB_intro (fun b hb => ?_); simp only [ln_cons2, ln_nil, and_true] at hb) | (with_reducible apply And.intro; (focus (first | omega | (simp only [Fact, Bool.not_eq_true', Bool.not_eq_false', decide_eq_true_eq, decide_eq_false_iff_not] at *; omega)))) | ((first | refine gW_sp ?_ | refine condW_sp ?_ | refine pickW_sp ?_); (try refine Sp_n ?_); (first | refine Sp_t (by assumption) ?_ | refine Sp_f (by assumption) ?_ | refine Sp_split (fun h => ?_) (fun h => ?_)) <;> (first | have h' := Fact_lt h | have h' := Fact_nlt h | have h' := Fact_le h | have h' := Fact_nle h | skip) <;> (try (exfalso; omega))) | refine TreeW_intro (by rfl) ?_ | refine TreeW_all ?_ | refine upQ_intro ?_ | refine Two_intro ?_ ?_ | (refine leK_lit ?_; (simp [-List.getD_eq_getElem?_getD, LeL, lk, *]; done)) | (refine leK_dd ?_; (simp [-List.getD_eq_getElem?_getD, LeS, LeL, lk, *]; done)) | (simp only [Fact, Bool.not_eq_true', Bool.not_eq_false', decide_eq_true_eq, decide_eq_false_iff_not] at *; refine leK_dd ?_; (simp [-List.getD_eq_getElem?_getD, LeS, LeL, lk, *]; done)) | (show (_ : Nat) ≤ _; omega)) <;> (try simp (disch := omega) only [*, ↓Ed, Eu, ↓reduceIte, reduceCtorEq, Nat.reduceAdd, Nat.reduceEqDiff, Nat.reduceLT, Nat.reduceLeDiff, Int.reduceToNat, Int.reduceEq, Int.reduceLT, Int.reduceLE, Int.toNat_natCast, al_so, al_al, al_pc, al_rc, al_pst, al_rst, w64, List.length_append, List.length_map, Nat.mul_one, beq_self_eq_true, Lim.cs, PathC.cs, RuleC.cs, gdP, gdR]))
      all_goals omega
    | false =>
      have hN : Fact (((c.rs.take (k + 1)).all fun r => !matchP r.pt (textP ap ac)) = true) := by
        simp only [Fact] at g2 ⊢
        rw [all_take hk, g2, hmm]; rfl
      have ha := all_take (p := fun r : RuleC => !r.al) hk
      rw [hmm] at hMk
      clear hmm g2
      cases hal : (c.rs.take k).all fun r => !r.al
      all_goals rw [hal] at ha
      all_goals clear hal
      all_goals simp (disch := omega) only [h1, h2, hb, ↓Ed, Eu, ↓reduceIte, reduceCtorEq, Nat.reduceAdd, Nat.reduceEqDiff, Nat.reduceLT, Nat.reduceLeDiff, Int.reduceToNat, Int.reduceEq, Int.reduceLT, Int.reduceLE, Int.toNat_natCast, al_so, al_al, al_pc, al_rc, al_pst, al_rst, w64, List.length_append, List.length_map, Nat.mul_one, beq_self_eq_true, Lim.cs, PathC.cs, RuleC.cs, gdP, gdR]
      all_goals repeat' ((first | refine CallW_intro (hT) ?_ | refine CallW_intro (hMk) ?_ | refine NewB_intro0 (fun b => ?_) | (refine NewB_intro (fun b hb => ?_); simp only [ln_cons2, ln_nil, and_true] at hb) | (with_reducible apply And.intro; (focus (first | omega | (simp only [Fact, Bool.not_eq_true', Bool.not_eq_false', decide_eq_true_eq, decide_eq_false_iff_not] at *; omega)))) | ((first | refine gW_sp ?_ | refine condW_sp ?_ | refine pickW_sp ?_); (try refine Sp_n ?_); (first | refine Sp_t (by assumption) ?_ | refine Sp_f (by assumption) ?_ | refine Sp_split (fun h => ?_) (fun h => ?_)) <;> (first | have h' := Fact_lt h | have h' := Fact_nlt h | have h' := Fact_le h | have h' := Fact_nle h | skip) <;> (try (exfalso; omega))) | refine TreeW_intro (by rfl) ?_ | refine TreeW_all ?_ | refine upQ_intro ?_ | refine Two_intro ?_ ?_ | (refine leK_lit ?_; (simp [-List.getD_eq_getElem?_getD, LeL, lk, *]; done)) | (refine leK_dd ?_; (simp [-List.getD_eq_getElem?_getD, LeS, LeL, lk, *]; done)) | (simp only [Fact, Bool.not_eq_true', Bool.not_eq_false', decide_eq_true_eq, decide_eq_false_iff_not] at *; refine leK_dd ?_; (simp [-List.getD_eq_getElem?_getD, LeS, LeL, lk, *]; done)) | (show (_ : Nat) ≤ _; omega)) <;> (try simp (disch := omega) only [*, ↓Ed, Eu, ↓reduceIte, reduceCtorEq, Nat.reduceAdd, Nat.reduceEqDiff, Nat.reduceLT, Nat.reduceLeDiff, Int.reduceToNat, Int.reduceEq, Int.reduceLT, Int.reduceLE, Int.toNat_natCast, al_so, al_al, al_pc, al_rc, al_pst, al_rst, w64, List.length_append, List.length_map, Nat.mul_one, beq_self_eq_true, Lim.cs, PathC.cs, RuleC.cs, gdP, gdR]))
      all_goals exact Round_lit (k + 1) ⟨Le_lit (by simp [LeL, lk, hb, ha]), ⟨by omega, hN⟩, by omega⟩
  have f5 : Fact (decide ((k : Int) < c.rs.length) = false) := by simp only [Fact, Bool.not_eq_true', Bool.not_eq_false', decide_eq_true_eq, decide_eq_false_iff_not]; omega
  have hl : letsP c.rs (textP ap ac) = (c.rs.take k).all fun r => !r.al := by
    simp only [Fact] at g2
    rw [List.take_of_length_le (by omega)] at g2 ⊢
    exact lets_end g2
  rw [hl]
  clear hl g2 hM
  simp (disch := omega) only [h1, h2, hb, ↓Ed, Eu, ↓reduceIte, reduceCtorEq, Nat.reduceAdd, Nat.reduceEqDiff, Nat.reduceLT, Nat.reduceLeDiff, Int.reduceToNat, Int.reduceEq, Int.reduceLT, Int.reduceLE, Int.toNat_natCast, al_so, al_al, al_pc, al_rc, al_pst, al_rst, w64, List.length_append, List.length_map, Nat.mul_one, beq_self_eq_true, Lim.cs, PathC.cs, RuleC.cs, gdP, gdR]
  repeat' ((first | refine NewB_intro0 (fun b => ?_) | (refine NewB_intro (fun b hb => ?_); simp only [ln_cons2, ln_nil, and_true] at hb) | (with_reducible apply And.intro; (focus (first | omega | (simp only [Fact, Bool.not_eq_true', Bool.not_eq_false', decide_eq_true_eq, decide_eq_false_iff_not] at *; omega)))) | ((first | refine gW_sp ?_ | refine condW_sp ?_ | refine pickW_sp ?_); (try refine Sp_n ?_); (first | refine Sp_t (by assumption) ?_ | refine Sp_f (by assumption) ?_ | refine Sp_split (fun h => ?_) (fun h => ?_)) <;> (first | have h' := Fact_lt h | have h' := Fact_nlt h | have h' := Fact_le h | have h' := Fact_nle h | skip) <;> (try (exfalso; omega))) | refine TreeW_intro (by rfl) ?_ | refine TreeW_all ?_ | refine upQ_intro ?_ | refine Two_intro ?_ ?_ | (refine leK_lit ?_; (simp [-List.getD_eq_getElem?_getD, LeL, lk, *]; done)) | (refine leK_dd ?_; (simp [-List.getD_eq_getElem?_getD, LeS, LeL, lk, *]; done)) | (simp only [Fact, Bool.not_eq_true', Bool.not_eq_false', decide_eq_true_eq, decide_eq_false_iff_not] at *; refine leK_dd ?_; (simp [-List.getD_eq_getElem?_getD, LeS, LeL, lk, *]; done)) | (show (_ : Nat) ≤ _; omega)) <;> (try simp (disch := omega) only [*, ↓Ed, Eu, ↓reduceIte, reduceCtorEq, Nat.reduceAdd, Nat.reduceEqDiff, Nat.reduceLT, Nat.reduceLeDiff, Int.reduceToNat, Int.reduceEq, Int.reduceLT, Int.reduceLE, Int.toNat_natCast, al_so, al_al, al_pc, al_rc, al_pst, al_rst, w64, List.length_append, List.length_map, Nat.mul_one, beq_self_eq_true, Lim.cs, PathC.cs, RuleC.cs, gdP, gdR]))
end Go.Proofs.YtlefegihikpilaaDoor

/- chapter 21: the document's words, lines, numbers -/
namespace Go.Proofs.YtlefegihikpilaaDoor
set_option linter.all false
open Go.RowKit
set_option maxRecDepth 100000
theorem nilq (s : List UInt8) : (s = ([] : List UInt8)) = (s.length = 0) := by simp [List.length_eq_zero_iff]
theorem drop_cons {s : List UInt8} {i : Nat} (h : i < s.length) : s.drop i = s.getD i 0 :: s.drop (i + 1) := by
  rw [List.drop_eq_getElem_cons h, List.getD, List.getElem?_eq_getElem h]; rfl
theorem nh_end {s : List UInt8} {i : Nat} (h : s.length ≤ i) : noHash (s.drop i) = [] := by rw [List.drop_of_length_le h]; rfl
theorem nh_hash {s : List UInt8} {i : Nat} (h : i < s.length) (hc : s.getD i 0 = 35) : noHash (s.drop i) = [] := by
  rw [drop_cons h, hc]; rfl
theorem nh_step {s : List UInt8} {i : Nat} (h : i < s.length) (hc : s.getD i 0 ≠ 35) : noHash (s.drop i) = s.getD i 0 :: noHash (s.drop (i + 1)) := by
  rw [drop_cons h]
  unfold noHash
  rw [List.takeWhile_cons, if_pos (by simpa using hc)]
theorem u8k {a : UInt8} (b : UInt8) {n : Nat} (hb : b.toNat = n) : ((a.toNat : Int) = (n : Int)) ↔ a = b := by
  rw [Int.ofNat_inj, ← hb, UInt8.toNat_inj]
theorem u35 {c : UInt8} : ((c.toNat : Int) = 35) ↔ c = 35 := u8k 35 rfl
theorem u32 {c : UInt8} : ((c.toNat : Int) = 32) ↔ c = 32 := u8k 32 rfl
theorem u9 {c : UInt8} : ((c.toNat : Int) = 9) ↔ c = 9 := u8k 9 rfl
theorem u10 {c : UInt8} : ((c.toNat : Int) = 10) ↔ c = 10 := u8k 10 rfl
theorem take1 {s : List UInt8} {i : Nat} (h : i < s.length) : (s.take (i + 1)).drop i = [s.getD i 0] := by
  rw [List.drop_take, drop_cons h]; simp
theorem w_end {s cur : List UInt8} {o R : List (List UInt8)} {i : Nat} (h : o ++ wgo cur (noHash (s.drop i)) = R) (hn : noHash (s.drop i) = []) : (cur.length = 0 → o = R) ∧ (cur.length ≠ 0 → o ++ [cur] = R) := by
  rw [hn, wgo] at h
  constructor
  · intro e
    rw [if_pos (List.length_eq_zero_iff.1 e)] at h
    simpa using h
  · intro e
    rw [if_neg (fun g => e (List.length_eq_zero_iff.2 g))] at h
    exact h
theorem w_blk {s cur : List UInt8} {o R : List (List UInt8)} {i : Nat} (h : o ++ wgo cur (noHash (s.drop i)) = R) (hi : i < s.length) (hc : s.getD i 0 ≠ 35) (hb : blk (s.getD i 0) = true) :
    (cur.length = 0 → o ++ wgo [] (noHash (s.drop (i + 1))) = R) ∧ (cur.length ≠ 0 → (o ++ [cur]) ++ wgo [] (noHash (s.drop (i + 1))) = R) := by
  rw [nh_step hi hc, wgo, if_pos hb] at h
  constructor
  · intro e
    rw [if_pos (List.length_eq_zero_iff.1 e)] at h
    exact h
  · intro e
    rw [if_neg (fun g => e (List.length_eq_zero_iff.2 g))] at h
    rw [← h]; simp
theorem w_chr {s cur : List UInt8} {o R : List (List UInt8)} {i : Nat} (h : o ++ wgo cur (noHash (s.drop i)) = R) (hi : i < s.length) (hc : s.getD i 0 ≠ 35) (hb : blk (s.getD i 0) = false) :
    o ++ wgo (cur ++ [s.getD i 0]) (noHash (s.drop (i + 1))) = R := by
  rw [nh_step hi hc, wgo, if_neg (by rw [hb]; decide)] at h
  exact h
theorem blk32 {c : UInt8} (h : c = 32) : blk c = true := by subst h; rfl
theorem blk9 {c : UInt8} (h : c = 9) : blk c = true := by subst h; rfl
theorem blk_no {c : UInt8} (h : c ≠ 32) (h' : c ≠ 9) : blk c = false := by simp [blk, h, h']
/-! lines -/
theorem spx_nl {s : List UInt8} {f i : Nat} (hf : f ≤ i) (hi : i < s.length) (hn : ∀ j, f ≤ j → j < i → s.getD j 0 ≠ 10) (hc : s.getD i 0 = 10) : spx 10 (s.drop f) = (s.take i).drop f :: spx 10 (s.drop (i + 1)) := by
  have e : s.drop f = (s.take i).drop f ++ 10 :: s.drop (i + 1) := by
    rw [← hc, ← drop_cons hi, List.drop_take]
    have : s.drop i = (s.drop f).drop (i - f) := by rw [List.drop_drop]; congr 1; omega
    rw [this, List.take_append_drop]
  rw [e, spx_cut]
  intro g
  obtain ⟨j, hj, e2⟩ := List.getElem_of_mem g
  rw [List.length_drop, List.length_take] at hj
  refine hn (f + j) (by omega) (by omega) ?_
  rw [← e2]
  simp [List.getD, List.getElem?_eq_getElem (show f + j < s.length by omega)]
theorem spx_tail {s : List UInt8} {f i : Nat} (hf : f ≤ i) (hi : s.length ≤ i) (hn : ∀ j, f ≤ j → j < i → s.getD j 0 ≠ 10) : spx 10 (s.drop f) = [s.drop f] := by
  refine spx_none ?_
  intro g
  obtain ⟨j, hj, e2⟩ := List.getElem_of_mem g
  rw [List.length_drop] at hj
  refine hn (f + j) (by omega) (by omega) ?_
  rw [← e2]
  simp [List.getD, List.getElem?_eq_getElem (show f + j < s.length by omega)]
/-! numbers -/
def okN (l : List (List UInt8)) : Bool := l.all fun w => decide ((numP w).2 = 0)
def numsR (l : List (List UInt8)) : List Int := l.map fun w => (numP w).1
abbrev intsC (l : List Int) : List (List AV) := l.map fun n => [AV.int .i64 n]
theorem okN_bad {l : List (List UInt8)} {k : Nat} (hk : k < l.length) (h : (numP (l.getD k [])).2 ≠ 0) : okN l = false := by
  unfold okN
  rw [List.all_eq_false]
  refine ⟨l.getD k [], ?_, by simpa using h⟩
  rw [List.getD, List.getElem?_eq_getElem hk]; exact List.getElem_mem hk
theorem okN_all {l : List (List UInt8)} (h : ∀ j, j < l.length → (numP (l.getD j [])).2 = 0) : okN l = true := by
  unfold okN
  rw [List.all_eq_true]
  intro x hx
  obtain ⟨j, hj, rfl⟩ := List.getElem_of_mem hx
  have := h j hj
  rw [List.getD, List.getElem?_eq_getElem hj] at this
  exact decide_eq_true this
theorem numsR_take {l : List (List UInt8)} {k : Nat} (hk : k < l.length) : numsR (l.take (k + 1)) = numsR (l.take k) ++ [(numP (l.getD k [])).1] := by
  unfold numsR
  rw [List.take_succ_eq_append_getElem hk, List.map_append]
  congr 1
  simp [List.getD, List.getElem?_eq_getElem hk]
end Go.Proofs.YtlefegihikpilaaDoor
