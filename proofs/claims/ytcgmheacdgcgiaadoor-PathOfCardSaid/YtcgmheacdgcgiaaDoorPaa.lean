/- chapter 3: numbers, texts and names of what is kept: the program's and the document's -/
import Derived.Test.YtcgmheacdgcgiaaDoorLpa
import Derived.Test.YtcgmheacdgcgiaaDoorPna
import Derived.Test.YtcgmheacdgcgiaaDoorNh
namespace Go.Proofs.YtcgmheacdgcgiaaDoor
set_option linter.all false
open Go.RowKit
set_option maxRecDepth 100000
theorem max_big : 1000000 ≤ maxLen := by unfold maxLen; decide
abbrev bts (l : List UInt8) : List (List AV) := l.map byteEl
theorem p_Less (a b : List UInt8) (c d : Int) : CP Tryd.prog 19 [.agg [.str a, .int .i64 c], .agg [.str b, .int .i64 d]] (.bool (Op.bytesLess a b || (decide (a = b) && decide (c < d)))) := by
  refine ok_path_Less _ _ (by simp) ?_
  simp only [c_path_Less, ↓Ed, Eu, ↓reduceIte, reduceCtorEq, Nat.reduceAdd, Nat.reduceEqDiff, Nat.reduceLT, Nat.reduceLeDiff, Int.reduceToNat, Int.reduceEq, Int.reduceLT, Int.reduceLE, w64, st_nil, List.length_append, Nat.reduceMul]
  repeat' (first | (refine NewB_intro0 (fun b => ?_); simp only [↓Ed, Eu, ↓reduceIte, reduceCtorEq, Nat.reduceAdd, Nat.reduceEqDiff, Nat.reduceLT, Nat.reduceLeDiff, Int.reduceToNat, Int.reduceEq, Int.reduceLT, Int.reduceLE, w64, st_nil, List.length_append, Nat.reduceMul]) | (refine NewB_intro (fun b hb => ?_); simp only [ln_cons2, ln_nil, and_true] at hb; simp (disch := omega) only [*, ↓Ed, Eu, ↓reduceIte, reduceCtorEq, Nat.reduceAdd, Nat.reduceEqDiff, Nat.reduceLT, Nat.reduceLeDiff, Int.reduceToNat, Int.reduceEq, Int.reduceLT, Int.reduceLE, w64, st_nil, List.length_append, Nat.reduceMul]) | (with_reducible apply And.intro; (focus (first | omega | (simp only [Fact, Bool.not_eq_true', Bool.not_eq_false', decide_eq_true_eq, decide_eq_false_iff_not] at *; omega))); (try simp (disch := omega) only [*, ↓Ed, Eu, ↓reduceIte, reduceCtorEq, Nat.reduceAdd, Nat.reduceEqDiff, Nat.reduceLT, Nat.reduceLeDiff, Int.reduceToNat, Int.reduceEq, Int.reduceLT, Int.reduceLE, w64, st_nil, List.length_append, Nat.reduceMul])) | ((first | refine gW_sp ?_ | refine condW_sp ?_ | refine pickW_sp ?_); (try refine Sp_n ?_); (first | refine Sp_t (by assumption) ?_ | refine Sp_f (by assumption) ?_ | refine Sp_split (fun h => ?_) (fun h => ?_)) <;> (first | have h' := Fact_lt h | have h' := Fact_nlt h | have h' := Fact_le h | have h' := Fact_nle h | skip) <;> (first | (exfalso; omega) | simp (disch := omega) only [*, ↓Ed, Eu, ↓reduceIte, reduceCtorEq, Nat.reduceAdd, Nat.reduceEqDiff, Nat.reduceLT, Nat.reduceLeDiff, Int.reduceToNat, Int.reduceEq, Int.reduceLT, Int.reduceLE, w64, st_nil, List.length_append, Nat.reduceMul])) | (show (_ : Nat) ≤ _; omega))
  all_goals (try simp only [Fact, Bool.not_eq_true', Bool.not_eq_false', decide_eq_true_eq, decide_eq_false_iff_not] at *)
  all_goals simp_all
theorem p_LessEnd (a b : List UInt8) (c d : Int) : CP Tryd.prog 20 [.agg [.str a, .int .i64 c], .agg [.str b, .int .i64 d]] (.bool (Op.bytesLess a b || (decide (a = b) && decide (c < d)))) := by
  refine ok_ligref1_LessEnd _ _ (by simp) ?_
  simp only [c_ligref1_LessEnd, ↓Ed, Eu, ↓reduceIte, reduceCtorEq, Nat.reduceAdd, Nat.reduceEqDiff, Nat.reduceLT, Nat.reduceLeDiff, Int.reduceToNat, Int.reduceEq, Int.reduceLT, Int.reduceLE, w64, st_nil, List.length_append, Nat.reduceMul]
  repeat' (first | (refine NewB_intro0 (fun b => ?_); simp only [↓Ed, Eu, ↓reduceIte, reduceCtorEq, Nat.reduceAdd, Nat.reduceEqDiff, Nat.reduceLT, Nat.reduceLeDiff, Int.reduceToNat, Int.reduceEq, Int.reduceLT, Int.reduceLE, w64, st_nil, List.length_append, Nat.reduceMul]) | (refine NewB_intro (fun b hb => ?_); simp only [ln_cons2, ln_nil, and_true] at hb; simp (disch := omega) only [*, ↓Ed, Eu, ↓reduceIte, reduceCtorEq, Nat.reduceAdd, Nat.reduceEqDiff, Nat.reduceLT, Nat.reduceLeDiff, Int.reduceToNat, Int.reduceEq, Int.reduceLT, Int.reduceLE, w64, st_nil, List.length_append, Nat.reduceMul]) | (with_reducible apply And.intro; (focus (first | omega | (simp only [Fact, Bool.not_eq_true', Bool.not_eq_false', decide_eq_true_eq, decide_eq_false_iff_not] at *; omega))); (try simp (disch := omega) only [*, ↓Ed, Eu, ↓reduceIte, reduceCtorEq, Nat.reduceAdd, Nat.reduceEqDiff, Nat.reduceLT, Nat.reduceLeDiff, Int.reduceToNat, Int.reduceEq, Int.reduceLT, Int.reduceLE, w64, st_nil, List.length_append, Nat.reduceMul])) | ((first | refine gW_sp ?_ | refine condW_sp ?_ | refine pickW_sp ?_); (try refine Sp_n ?_); (first | refine Sp_t (by assumption) ?_ | refine Sp_f (by assumption) ?_ | refine Sp_split (fun h => ?_) (fun h => ?_)) <;> (first | have h' := Fact_lt h | have h' := Fact_nlt h | have h' := Fact_le h | have h' := Fact_nle h | skip) <;> (first | (exfalso; omega) | simp (disch := omega) only [*, ↓Ed, Eu, ↓reduceIte, reduceCtorEq, Nat.reduceAdd, Nat.reduceEqDiff, Nat.reduceLT, Nat.reduceLeDiff, Int.reduceToNat, Int.reduceEq, Int.reduceLT, Int.reduceLE, w64, st_nil, List.length_append, Nat.reduceMul])) | (show (_ : Nat) ≤ _; omega))
  all_goals (try simp only [Fact, Bool.not_eq_true', Bool.not_eq_false', decide_eq_true_eq, decide_eq_false_iff_not] at *)
  all_goals simp_all
theorem trimS_nil (s : List UInt8) : Lib.trimS s digs = [] ↔ ∀ c ∈ s, isDig c := by
  have hd : ∀ c : UInt8, digs.contains c = true ↔ isDig c := by
    intro c
    have h : ∀ n : Fin 256, digs.contains (UInt8.ofNat n.val) = decide (48 ≤ n.val ∧ n.val ≤ 57) := by decide
    have := h ⟨c.toNat, c.toNat_lt⟩
    simp only [UInt8.ofNat_toNat] at this
    rw [this, decide_eq_true_eq]; rfl
  have hn : ∀ (p : UInt8 → Bool) (l : List UInt8), l.dropWhile p = [] ↔ ∀ x ∈ l, p x = true := by
    intro p l
    induction l with
    | nil => simp
    | cons x l ih =>
      rw [List.dropWhile_cons]
      cases h : p x with
      | true => simp [h, ih]
      | false => simp [h]
  have hh : ∀ (p : UInt8 → Bool) (l : List UInt8) (y : UInt8) (ys : List UInt8), l.dropWhile p = y :: ys → p y = false := by
    intro p l
    induction l with
    | nil => intro y ys h; simp at h
    | cons x l ih =>
      intro y ys h
      rw [List.dropWhile_cons] at h
      cases hx : p x with
      | true => rw [hx] at h; exact ih y ys (by simpa using h)
      | false => rw [hx] at h; simp at h; rw [← h.1]; exact hx
  unfold Lib.trimS Lib.trimLeftS Lib.trimRightS
  rw [hn]
  constructor
  · intro h c hc
    have h3 : s.reverse.dropWhile (digs.contains ·) = [] := by
      cases hd' : s.reverse.dropWhile (digs.contains ·) with
      | nil => rfl
      | cons y ys =>
        have h4 := hh _ _ _ _ hd'
        have h5 := h y (by rw [hd']; simp)
        rw [h5] at h4; cases h4
    rw [hn] at h3
    exact (hd c).1 (h3 c (by simpa using hc))
  · intro h c hc
    have hz : s.reverse.dropWhile (digs.contains ·) = [] := by
      rw [hn]
      intro x hx
      exact (hd x).2 (h x (by simpa using hx))
    rw [hz] at hc
    simp at hc
theorem valD_take {s : List UInt8} {k : Nat} (h : k < s.length) : valD (s.take (k + 1)) = 10 * valD (s.take k) + ((s.getD k 0).toNat - 48) := by
  rw [List.take_add_one, List.getElem?_eq_getElem h]
  simp only [Option.toList_some]
  rw [valD_snoc]
  simp [List.getD, List.getElem?_eq_getElem h]
theorem valD_le {s : List UInt8} (hd : ∀ c ∈ s, isDig c) : ∀ k, k ≤ s.length → valD (s.take k) + 1 ≤ 10 ^ k
  | 0, _ => by simp [valD]
  | k + 1, h => by
    have ih := valD_le hd k (by omega)
    rw [valD_take (by omega), Nat.pow_succ]
    have hk : k < s.length := by omega
    have : isDig (s.getD k 0) := by
      rw [List.getD, List.getElem?_eq_getElem hk]; exact hd _ (List.getElem_mem hk)
    unfold isDig at this
    omega
theorem u48 {c : UInt8} : ((c.toNat : Int) = 48) = (c = 48) := propext ⟨fun h => UInt8.toNat_inj.1 (by have : (48 : UInt8).toNat = 48 := rfl; omega), fun h => by rw [h]; rfl⟩
theorem dig_at {s : List UInt8} (hd : ∀ c ∈ s, isDig c) {k : Nat} (hk : k < s.length) : 48 ≤ (s.getD k 0).toNat ∧ (s.getD k 0).toNat ≤ 57 := by
  rw [List.getD, List.getElem?_eq_getElem hk]; exact hd _ (List.getElem_mem hk)
theorem wsub {n : Nat} (h : 48 ≤ n ∧ n ≤ 57) : IntKind.u8.wrap ((n : Int) - 48) = ((n - 48 : Nat) : Int) := by rw [IntKind.wrap_u8]; omega
theorem numP_form {s : List UInt8} (h0 : ¬ s = []) (h : ¬ numQ s) : numP s = (0, 3) := by unfold numP; rw [if_neg h0, if_pos h]
theorem numP_long {s : List UInt8} (hq : numQ s) (h : 17 < s.length) : numP s = (0, 4) := by
  unfold numP; rw [if_neg (fun e => by subst e; simp at h), if_neg (by simpa using hq), if_pos h]
theorem numP_big {s : List UInt8} (h0 : ¬ s = []) (hq : numQ s) (h : ¬ 17 < s.length) (hv : 72057594037927935 < valD s) : numP s = (0, 4) := by
  unfold numP; rw [if_neg h0, if_neg (by simpa using hq), if_neg h, if_pos hv]
theorem numP_ok {s : List UInt8} (h0 : ¬ s = []) (hq : numQ s) (h : ¬ 17 < s.length) (hv : ¬ 72057594037927935 < valD s) : numP s = ((valD s : Int), 0) := by
  unfold numP; rw [if_neg h0, if_neg (by simpa using hq), if_neg h, if_neg hv]
theorem p_Number (s : List UInt8) (hs : s.length ≤ 1000000) : CP Tryd.prog 9 [.str s] (.tup [.int .i64 (numP s).1, .int .i64 (numP s).2]) := by
  by_cases h0 : s = []
  · subst h0
    refine ok_path_Number _ _ (by simp) ?_
    simp only [c_path_Number, ↓Ed, Eu, ↓reduceIte, reduceCtorEq, Nat.reduceAdd, Nat.reduceEqDiff, Nat.reduceLT, Nat.reduceLeDiff, Int.reduceToNat, Int.reduceEq, Int.reduceLT, Int.reduceLE, w64, st_nil, List.length_append, Nat.reduceMul]
    repeat' (first | (refine NewB_intro0 (fun b => ?_); simp only [↓Ed, Eu, ↓reduceIte, reduceCtorEq, Nat.reduceAdd, Nat.reduceEqDiff, Nat.reduceLT, Nat.reduceLeDiff, Int.reduceToNat, Int.reduceEq, Int.reduceLT, Int.reduceLE, w64, st_nil, List.length_append, Nat.reduceMul]) | (refine NewB_intro (fun b hb => ?_); simp only [ln_cons2, ln_nil, and_true] at hb; simp (disch := omega) only [*, ↓Ed, Eu, ↓reduceIte, reduceCtorEq, Nat.reduceAdd, Nat.reduceEqDiff, Nat.reduceLT, Nat.reduceLeDiff, Int.reduceToNat, Int.reduceEq, Int.reduceLT, Int.reduceLE, w64, st_nil, List.length_append, Nat.reduceMul]) | (with_reducible apply And.intro; (focus (first | omega | (simp only [Fact, Bool.not_eq_true', Bool.not_eq_false', decide_eq_true_eq, decide_eq_false_iff_not] at *; omega))); (try simp (disch := omega) only [*, ↓Ed, Eu, ↓reduceIte, reduceCtorEq, Nat.reduceAdd, Nat.reduceEqDiff, Nat.reduceLT, Nat.reduceLeDiff, Int.reduceToNat, Int.reduceEq, Int.reduceLT, Int.reduceLE, w64, st_nil, List.length_append, Nat.reduceMul])) | ((first | refine gW_sp ?_ | refine condW_sp ?_ | refine pickW_sp ?_); (try refine Sp_n ?_); (first | refine Sp_t (by assumption) ?_ | refine Sp_f (by assumption) ?_ | refine Sp_split (fun h => ?_) (fun h => ?_)) <;> (first | have h' := Fact_lt h | have h' := Fact_nlt h | have h' := Fact_le h | have h' := Fact_nle h | skip) <;> (first | (exfalso; omega) | simp (disch := omega) only [*, ↓Ed, Eu, ↓reduceIte, reduceCtorEq, Nat.reduceAdd, Nat.reduceEqDiff, Nat.reduceLT, Nat.reduceLeDiff, Int.reduceToNat, Int.reduceEq, Int.reduceLT, Int.reduceLE, w64, st_nil, List.length_append, Nat.reduceMul])) | (show (_ : Nat) ≤ _; omega))
    all_goals simp [numP]
  have ht := trimS_nil s
  rw [← List.length_eq_zero_iff] at ht
  have hl : ¬ s.length = 0 := fun e => h0 (List.length_eq_zero_iff.1 e)
  refine ok_path_Number _ _ (by simp) ?_
  simp only [c_path_Number, ↓Ed, Eu, ↓reduceIte, reduceCtorEq, Nat.reduceAdd, Nat.reduceEqDiff, Nat.reduceLT, Nat.reduceLeDiff, Int.reduceToNat, Int.reduceEq, Int.reduceLT, Int.reduceLE, w64, st_nil, List.length_append, Nat.reduceMul]
  repeat' (first | (refine CallO_pure (p_TrimD s (by omega)) ?_; simp (disch := omega) only [*, ↓Ed, Eu, ↓reduceIte, reduceCtorEq, Nat.reduceAdd, Nat.reduceEqDiff, Nat.reduceLT, Nat.reduceLeDiff, Int.reduceToNat, Int.reduceEq, Int.reduceLT, Int.reduceLE, w64, st_nil, List.length_append, Nat.reduceMul]) | (refine NewB_intro0 (fun b => ?_); simp only [↓Ed, Eu, ↓reduceIte, reduceCtorEq, Nat.reduceAdd, Nat.reduceEqDiff, Nat.reduceLT, Nat.reduceLeDiff, Int.reduceToNat, Int.reduceEq, Int.reduceLT, Int.reduceLE, w64, st_nil, List.length_append, Nat.reduceMul]) | (refine NewB_intro (fun b hb => ?_); simp only [ln_cons2, ln_nil, and_true] at hb; simp (disch := omega) only [*, ↓Ed, Eu, ↓reduceIte, reduceCtorEq, Nat.reduceAdd, Nat.reduceEqDiff, Nat.reduceLT, Nat.reduceLeDiff, Int.reduceToNat, Int.reduceEq, Int.reduceLT, Int.reduceLE, w64, st_nil, List.length_append, Nat.reduceMul]) | (with_reducible apply And.intro; (focus (first | omega | (simp only [Fact, Bool.not_eq_true', Bool.not_eq_false', decide_eq_true_eq, decide_eq_false_iff_not] at *; omega))); (try simp (disch := omega) only [*, ↓Ed, Eu, ↓reduceIte, reduceCtorEq, Nat.reduceAdd, Nat.reduceEqDiff, Nat.reduceLT, Nat.reduceLeDiff, Int.reduceToNat, Int.reduceEq, Int.reduceLT, Int.reduceLE, w64, st_nil, List.length_append, Nat.reduceMul])) | ((first | refine gW_sp ?_ | refine condW_sp ?_ | refine pickW_sp ?_); (try refine Sp_n ?_); (first | refine Sp_t (by assumption) ?_ | refine Sp_f (by assumption) ?_ | refine Sp_split (fun h => ?_) (fun h => ?_)) <;> (first | have h' := Fact_lt h | have h' := Fact_nlt h | have h' := Fact_le h | have h' := Fact_nle h | skip) <;> (first | (exfalso; omega) | simp (disch := omega) only [*, ↓Ed, Eu, ↓reduceIte, reduceCtorEq, Nat.reduceAdd, Nat.reduceEqDiff, Nat.reduceLT, Nat.reduceLeDiff, Int.reduceToNat, Int.reduceEq, Int.reduceLT, Int.reduceLE, w64, st_nil, List.length_append, Nat.reduceMul])) | (show (_ : Nat) ≤ _; omega))
  all_goals (try simp only [Fact, Bool.not_eq_true', Bool.not_eq_false', decide_eq_true_eq, decide_eq_false_iff_not, u48] at *)
  case' refine_2.refine_1.refine_1.right.refine_2.refine_2 => have hq : numQ s := ⟨by assumption, fun g => by simp_all⟩
  case' refine_2.refine_1.refine_2.refine_2 => have hq : numQ s := ⟨by assumption, fun g => by omega⟩
  case' refine_2.refine_1.refine_1.right.refine_2.refine_2 | refine_2.refine_1.refine_2.refine_2 =>
    clear ht
    refine wpx_loop (fun k : Nat => ⟨lk [(0, .str s), (4, .int .i64 (valD (s.take k))), (25, .int .i64 s.length), (26, .int .i64 k)], lk []⟩) (fun k => k ≤ s.length) (fun k => s.length - k) 0 (by omega) (Le_lit (by simp [LeL, lk, valD])) ?_
    intro k h1
    have hv := valD_le hq.1 k h1
    have h17 : 10 ^ k ≤ 10 ^ 17 := Nat.pow_le_pow_right (by omega) (by omega)
    have hlt : valD (s.take k) < 100000000000000000 := by omega
    clear hv h17
    simp only [↓Ed, Eu, ↓reduceIte, reduceCtorEq, Nat.reduceAdd, Nat.reduceEqDiff, Nat.reduceLT, Nat.reduceLeDiff, Int.reduceToNat, Int.reduceEq, Int.reduceLT, Int.reduceLE, w64, st_nil, List.length_append, Nat.reduceMul]
    repeat' (first | (refine NewB_intro0 (fun b => ?_); simp only [↓Ed, Eu, ↓reduceIte, reduceCtorEq, Nat.reduceAdd, Nat.reduceEqDiff, Nat.reduceLT, Nat.reduceLeDiff, Int.reduceToNat, Int.reduceEq, Int.reduceLT, Int.reduceLE, w64, st_nil, List.length_append, Nat.reduceMul]) | (refine NewB_intro (fun b hb => ?_); simp only [ln_cons2, ln_nil, and_true] at hb; simp (disch := omega) only [*, ↓Ed, Eu, ↓reduceIte, reduceCtorEq, Nat.reduceAdd, Nat.reduceEqDiff, Nat.reduceLT, Nat.reduceLeDiff, Int.reduceToNat, Int.reduceEq, Int.reduceLT, Int.reduceLE, w64, st_nil, List.length_append, Nat.reduceMul]) | (with_reducible apply And.intro; (focus (first | omega | (simp only [Fact, Bool.not_eq_true', Bool.not_eq_false', decide_eq_true_eq, decide_eq_false_iff_not] at *; omega))); (try simp (disch := omega) only [*, ↓Ed, Eu, ↓reduceIte, reduceCtorEq, Nat.reduceAdd, Nat.reduceEqDiff, Nat.reduceLT, Nat.reduceLeDiff, Int.reduceToNat, Int.reduceEq, Int.reduceLT, Int.reduceLE, w64, st_nil, List.length_append, Nat.reduceMul])) | ((first | refine gW_sp ?_ | refine condW_sp ?_ | refine pickW_sp ?_); (try refine Sp_n ?_); (first | refine Sp_t (by assumption) ?_ | refine Sp_f (by assumption) ?_ | refine Sp_split (fun h => ?_) (fun h => ?_)) <;> (first | have h' := Fact_lt h | have h' := Fact_nlt h | have h' := Fact_le h | have h' := Fact_nle h | skip) <;> (first | (exfalso; omega) | simp (disch := omega) only [*, ↓Ed, Eu, ↓reduceIte, reduceCtorEq, Nat.reduceAdd, Nat.reduceEqDiff, Nat.reduceLT, Nat.reduceLeDiff, Int.reduceToNat, Int.reduceEq, Int.reduceLT, Int.reduceLE, w64, st_nil, List.length_append, Nat.reduceMul])) | (show (_ : Nat) ≤ _; omega))
  all_goals (try simp only [Fact, Bool.not_eq_true', Bool.not_eq_false', decide_eq_true_eq, decide_eq_false_iff_not, u48] at *)
  all_goals first
    | (rw [numP_form h0 (fun g => g.2 ⟨by omega, by assumption⟩)]; exact ⟨rfl, rfl⟩)
    | (rw [numP_form h0 (fun g => absurd g.1 (by assumption))]; exact ⟨rfl, rfl⟩)
    | (have h3 : 17 < s.length := by omega
       have hq : numQ s := ⟨by assumption, fun g => by simp_all⟩
       rw [numP_long hq h3]; exact ⟨rfl, rfl⟩)
    | (exact absurd (by assumption) hl)
    | (obtain rfl : k = s.length := by omega
       rw [List.take_length] at *
       first
         | (rw [numP_big h0 hq (by omega) (by omega)]; exact ⟨rfl, rfl⟩)
         | (rw [numP_ok h0 hq (by omega) (by omega)]; exact ⟨rfl, rfl⟩))
    | (have hd := dig_at hq.1 (k := k) (by omega)
       simp only [wsub hd]
       refine Round_lit (k + 1) ⟨Le_lit ?_, by omega, by omega⟩
       rw [valD_take (by omega)]
       generalize (s.getD k 0).toNat = y at *
       simp [LeL, lk]
       rw [IntKind.wrap_i64, IntKind.wrap_i64]; omega)
theorem p_counts (n : Int) : CP Tryd.prog 29 [.int .i64 n] (.bool (decide (1 ≤ n) && decide (n ≤ 3))) := by
  refine ok_path_counts _ _ (by simp) ?_
  simp only [c_path_counts, ↓Ed, Eu, ↓reduceIte, reduceCtorEq, Nat.reduceAdd, Nat.reduceEqDiff, Nat.reduceLT, Nat.reduceLeDiff, Int.reduceToNat, Int.reduceEq, Int.reduceLT, Int.reduceLE, w64, st_nil, List.length_append, Nat.reduceMul]
  repeat' (first | (refine NewB_intro0 (fun b => ?_); simp only [↓Ed, Eu, ↓reduceIte, reduceCtorEq, Nat.reduceAdd, Nat.reduceEqDiff, Nat.reduceLT, Nat.reduceLeDiff, Int.reduceToNat, Int.reduceEq, Int.reduceLT, Int.reduceLE, w64, st_nil, List.length_append, Nat.reduceMul]) | (refine NewB_intro (fun b hb => ?_); simp only [ln_cons2, ln_nil, and_true] at hb; simp (disch := omega) only [*, ↓Ed, Eu, ↓reduceIte, reduceCtorEq, Nat.reduceAdd, Nat.reduceEqDiff, Nat.reduceLT, Nat.reduceLeDiff, Int.reduceToNat, Int.reduceEq, Int.reduceLT, Int.reduceLE, w64, st_nil, List.length_append, Nat.reduceMul]) | (with_reducible apply And.intro; (focus (first | omega | (simp only [Fact, Bool.not_eq_true', Bool.not_eq_false', decide_eq_true_eq, decide_eq_false_iff_not] at *; omega))); (try simp (disch := omega) only [*, ↓Ed, Eu, ↓reduceIte, reduceCtorEq, Nat.reduceAdd, Nat.reduceEqDiff, Nat.reduceLT, Nat.reduceLeDiff, Int.reduceToNat, Int.reduceEq, Int.reduceLT, Int.reduceLE, w64, st_nil, List.length_append, Nat.reduceMul])) | ((first | refine gW_sp ?_ | refine condW_sp ?_ | refine pickW_sp ?_); (try refine Sp_n ?_); (first | refine Sp_t (by assumption) ?_ | refine Sp_f (by assumption) ?_ | refine Sp_split (fun h => ?_) (fun h => ?_)) <;> (first | have h' := Fact_lt h | have h' := Fact_nlt h | have h' := Fact_le h | have h' := Fact_nle h | skip) <;> (first | (exfalso; omega) | simp (disch := omega) only [*, ↓Ed, Eu, ↓reduceIte, reduceCtorEq, Nat.reduceAdd, Nat.reduceEqDiff, Nat.reduceLT, Nat.reduceLeDiff, Int.reduceToNat, Int.reduceEq, Int.reduceLT, Int.reduceLE, w64, st_nil, List.length_append, Nat.reduceMul])) | (show (_ : Nat) ≤ _; omega))
  all_goals (try simp only [Fact, Bool.not_eq_true', Bool.not_eq_false', decide_eq_true_eq, decide_eq_false_iff_not] at *)
  all_goals simp_all
  all_goals omega
end Go.Proofs.YtcgmheacdgcgiaaDoor
