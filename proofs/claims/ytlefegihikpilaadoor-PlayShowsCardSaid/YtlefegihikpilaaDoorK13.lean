import Derived.Test.YtlefegihikpilaaDoorK12
import Derived.Test.YtlefegihikpilaaDoorK11
import Derived.Lib.Join
/- chapter 32: the program's acts: May, hex, unhex -/
namespace Go.Proofs.YtlefegihikpilaaDoor
set_option linter.all false
open Go.RowKit
set_option maxRecDepth 100000
theorem cn0 : ((0 : Nat) : Int) = 0 := rfl
theorem cn1 : ((1 : Nat) : Int) = 1 := rfl
theorem cn2 : ((2 : Nat) : Int) = 2 := rfl
theorem cn3 : ((3 : Nat) : Int) = 3 := rfl
theorem tk1 (k : Nat) : ((k : Int) + 1).toNat = k + 1 := by omega
theorem tm2 (n : Nat) : (n : Int).tmod 2 = ((n % 2 : Nat) : Int) := rfl
theorem cn16 : ((16 : Nat) : Int) = 16 := rfl
theorem eqA (x y : Act) : (decide (x.k = y.k) && (decide (x.s = y.s) && (decide (x.c = y.c) && (decide (x.n = y.n) && (decide (x.m = y.m) && decide (x.d = y.d)))))) = decide (x = y) := by
  rw [Bool.eq_iff_iff]
  simp only [Bool.and_eq_true, decide_eq_true_eq]
  obtain ⟨a, b, c, d, e, f⟩ := x
  obtain ⟨a', b', c', d', e', f'⟩ := y
  simp
theorem rng_step {l : List Int} {k : Nat} (h : ∀ j, j < k → rngN (l.getD j 0)) (g : rngN (l.getD k 0)) : ∀ j, j < k + 1 → rngN (l.getD j 0) := fun j hj => by
  by_cases e : j = k
  · subst e; exact g
  · exact h j (by omega)
theorem mayA_f {x : Act} (h : ¬ mayQ x) : mayA x = false := by simp [mayA, h]
theorem mayA_t {x : Act} (h : mayQ x) : mayA x = true := by simp [mayA, h]
set_option maxHeartbeats 2000000 in
theorem p_aMay (x : Act) : CP Tryd.prog 27 [.agg x.cs] (.bool (mayA x)) := by
  refine ok_play_May _ _ (by simp) ?_
  simp only [c_play_May, ↓Ed, Eu, ↓reduceIte, reduceCtorEq, Nat.reduceAdd, Nat.reduceEqDiff, Nat.reduceLT, Nat.reduceLeDiff, Int.reduceToNat, Int.reduceEq, Int.reduceLT, Int.reduceLE, w64, List.length_append, List.length_map, sh4, an15, List.length_take, hexL_len, Nat.mul_one, List.map_append, cn0, cn1, cn2, cn3, cn16, Nat.reduceMul, eqA, tk1, tm2, List.append_assoc]
  repeat' ((first | refine CallW_intro (p_plain x) ?_ | refine NewB_intro0 (fun b => ?_) | (refine NewB_intro (fun b hb => ?_); simp only [ln_cons2, ln_nil, and_true] at hb) | (with_reducible apply And.intro; (focus (first | omega | (simp only [Fact, Bool.not_eq_true', Bool.not_eq_false', decide_eq_true_eq, decide_eq_false_iff_not] at *; omega)))) | ((first | refine gW_sp ?_ | refine condW_sp ?_ | refine pickW_sp ?_); (try refine Sp_n ?_); (first | refine Sp_t (by assumption) ?_ | refine Sp_f (by assumption) ?_ | refine Sp_split (fun h => ?_) (fun h => ?_)) <;> (first | have h' := Fact_lt h | have h' := Fact_nlt h | have h' := Fact_le h | have h' := Fact_nle h | skip) <;> (try (exfalso; omega))) | refine TreeW_intro (by rfl) ?_ | refine TreeW_all ?_ | refine upQ_intro ?_ | refine Two_intro ?_ ?_ | (refine leK_lit ?_; (simp [-List.getD_eq_getElem?_getD, LeL, lk, *]; done)) | (refine leK_dd ?_; (simp [-List.getD_eq_getElem?_getD, LeS, LeL, lk, *]; done)) | (simp only [Fact, Bool.not_eq_true', Bool.not_eq_false', decide_eq_true_eq, decide_eq_false_iff_not] at *; refine leK_dd ?_; (simp [-List.getD_eq_getElem?_getD, LeS, LeL, lk, *]; done)) | (show (_ : Nat) ≤ _; omega)) <;> (try simp (disch := omega) only [*, ↓Ed, Eu, ↓reduceIte, reduceCtorEq, Nat.reduceAdd, Nat.reduceEqDiff, Nat.reduceLT, Nat.reduceLeDiff, Int.reduceToNat, Int.reduceEq, Int.reduceLT, Int.reduceLE, w64, List.length_append, List.length_map, sh4, an15, List.length_take, hexL_len, Nat.mul_one, List.map_append, cn0, cn1, cn2, cn3, cn16, Nat.reduceMul, eqA, tk1, tm2, List.append_assoc]))
  case' refine_2.refine_2.refine_1.refine_2.refine_2 =>
    refine wpx_loop (fun k : Nat => ⟨lk [(35, .agg [.int .i64 x.c, .int .i64 x.n, .int .i64 x.m]), (36, .int .i64 (k : Int))], lk []⟩) (fun k => k ≤ 3 ∧ Fact (∀ j, j < k → rngN ([x.c, x.n, x.m].getD j 0))) (fun k => 3 - k) 0 ⟨by omega, fun j hj => by omega⟩ (Le_lit (by simp [LeL, lk])) ?_
    intro k ⟨h1, h2⟩
    have hk : k = 0 ∨ k = 1 ∨ k = 2 ∨ k = 3 := by omega
    rcases hk with rfl | rfl | rfl | rfl
    all_goals simp only [↓Ed, Eu, ↓reduceIte, reduceCtorEq, Nat.reduceAdd, Nat.reduceEqDiff, Nat.reduceLT, Nat.reduceLeDiff, Int.reduceToNat, Int.reduceEq, Int.reduceLT, Int.reduceLE, w64, List.length_append, List.length_map, sh4, an15, List.length_take, hexL_len, Nat.mul_one, List.map_append, cn0, cn1, cn2, cn3, cn16, Nat.reduceMul, eqA, tk1, tm2, List.append_assoc]
    all_goals repeat' ((first | refine NewB_intro0 (fun b => ?_) | (refine NewB_intro (fun b hb => ?_); simp only [ln_cons2, ln_nil, and_true] at hb) | (with_reducible apply And.intro; (focus (first | omega | (simp only [Fact, Bool.not_eq_true', Bool.not_eq_false', decide_eq_true_eq, decide_eq_false_iff_not] at *; omega)))) | ((first | refine gW_sp ?_ | refine condW_sp ?_ | refine pickW_sp ?_); (try refine Sp_n ?_); (first | refine Sp_t (by assumption) ?_ | refine Sp_f (by assumption) ?_ | refine Sp_split (fun h => ?_) (fun h => ?_)) <;> (first | have h' := Fact_lt h | have h' := Fact_nlt h | have h' := Fact_le h | have h' := Fact_nle h | skip) <;> (try (exfalso; omega))) | refine TreeW_intro (by rfl) ?_ | refine TreeW_all ?_ | refine upQ_intro ?_ | refine Two_intro ?_ ?_ | (refine leK_lit ?_; (simp [-List.getD_eq_getElem?_getD, LeL, lk, *]; done)) | (refine leK_dd ?_; (simp [-List.getD_eq_getElem?_getD, LeS, LeL, lk, *]; done)) | (simp only [Fact, Bool.not_eq_true', Bool.not_eq_false', decide_eq_true_eq, decide_eq_false_iff_not] at *; refine leK_dd ?_; (simp [-List.getD_eq_getElem?_getD, LeS, LeL, lk, *]; done)) | (show (_ : Nat) ≤ _; omega)) <;> (try simp (disch := omega) only [*, ↓Ed, Eu, ↓reduceIte, reduceCtorEq, Nat.reduceAdd, Nat.reduceEqDiff, Nat.reduceLT, Nat.reduceLeDiff, Int.reduceToNat, Int.reduceEq, Int.reduceLT, Int.reduceLE, w64, List.length_append, List.length_map, sh4, an15, List.length_take, hexL_len, Nat.mul_one, List.map_append, cn0, cn1, cn2, cn3, cn16, Nat.reduceMul, eqA, tk1, tm2, List.append_assoc]))
  all_goals (try simp only [Fact, Bool.not_eq_true', Bool.not_eq_false', decide_eq_true_eq, decide_eq_false_iff_not] at *)
  all_goals first
    | exact (mayA_f fun g => by obtain ⟨g1, g2, g3, g4, g5, g6, g7, g8⟩ := g; unfold rngN at *; first | omega | exact absurd g3 (by assumption)).symm
    | exact Round_lit 1 ⟨Le_lit (by simp [LeL, lk]), ⟨by omega, rng_step h2 (by simp only [List.getD_cons_zero]; unfold rngN; omega)⟩, by omega⟩
    | exact Round_lit 2 ⟨Le_lit (by simp [LeL, lk]), ⟨by omega, rng_step h2 (by simp only [List.getD_cons_succ, List.getD_cons_zero]; unfold rngN; omega)⟩, by omega⟩
    | exact Round_lit 3 ⟨Le_lit (by simp [LeL, lk]), ⟨by omega, rng_step h2 (by simp only [List.getD_cons_succ, List.getD_cons_zero]; unfold rngN; omega)⟩, by omega⟩
    | exact (mayA_t ⟨by omega, by omega, by assumption, by omega, by omega, h2 0 (by omega), h2 1 (by omega), h2 2 (by omega)⟩).symm
    | exact mayA_t ⟨by omega, by omega, by assumption, by omega, by omega, h2 0 (by omega), h2 1 (by omega), h2 2 (by omega)⟩
    | skip
theorem take_sn {s : List UInt8} {k : Nat} (h : k < s.length) : s.take (k + 1) = s.take k ++ [s.getD k 0] := by
  rw [List.take_succ]; simp [h]
theorem hex_step {d : List UInt8} {k : Nat} (h : k < d.length) : hexL (d.take (k + 1)) = hexL (d.take k) ++ [hexd ((d.getD k 0).toNat / 16), hexd ((d.getD k 0).toNat % 16)] := by
  rw [take_sn h]
  simp [hexL, hxb]
theorem p_hex (d : List UInt8) (hd : d.length ≤ 8000000) : CP Tryd.prog 52 [.str d] (.str (hexA d)) := by
  have hm : maxLen = 9223372036854775807 := rfl
  refine ok_play_hex _ _ (by simp) ?_
  simp only [c_play_hex, ↓Ed, Eu, ↓reduceIte, reduceCtorEq, Nat.reduceAdd, Nat.reduceEqDiff, Nat.reduceLT, Nat.reduceLeDiff, Int.reduceToNat, Int.reduceEq, Int.reduceLT, Int.reduceLE, w64, List.length_append, List.length_map, sh4, an15, List.length_take, hexL_len, Nat.mul_one, List.map_append, cn0, cn1, cn2, cn3, cn16, Nat.reduceMul, eqA, tk1, tm2, List.append_assoc]
  repeat' ((first | refine NewB_intro0 (fun b => ?_) | (refine NewB_intro (fun b hb => ?_); simp only [ln_cons2, ln_nil, and_true] at hb) | (with_reducible apply And.intro; (focus (first | omega | (simp only [Fact, Bool.not_eq_true', Bool.not_eq_false', decide_eq_true_eq, decide_eq_false_iff_not] at *; omega)))) | ((first | refine gW_sp ?_ | refine condW_sp ?_ | refine pickW_sp ?_); (try refine Sp_n ?_); (first | refine Sp_t (by assumption) ?_ | refine Sp_f (by assumption) ?_ | refine Sp_split (fun h => ?_) (fun h => ?_)) <;> (first | have h' := Fact_lt h | have h' := Fact_nlt h | have h' := Fact_le h | have h' := Fact_nle h | skip) <;> (try (exfalso; omega))) | refine TreeW_intro (by rfl) ?_ | refine TreeW_all ?_ | refine upQ_intro ?_ | refine Two_intro ?_ ?_ | (refine leK_lit ?_; (simp [-List.getD_eq_getElem?_getD, LeL, lk, *]; done)) | (refine leK_dd ?_; (simp [-List.getD_eq_getElem?_getD, LeS, LeL, lk, *]; done)) | (simp only [Fact, Bool.not_eq_true', Bool.not_eq_false', decide_eq_true_eq, decide_eq_false_iff_not] at *; refine leK_dd ?_; (simp [-List.getD_eq_getElem?_getD, LeS, LeL, lk, *]; done)) | (show (_ : Nat) ≤ _; omega)) <;> (try simp (disch := omega) only [*, ↓Ed, Eu, ↓reduceIte, reduceCtorEq, Nat.reduceAdd, Nat.reduceEqDiff, Nat.reduceLT, Nat.reduceLeDiff, Int.reduceToNat, Int.reduceEq, Int.reduceLT, Int.reduceLE, w64, List.length_append, List.length_map, sh4, an15, List.length_take, hexL_len, Nat.mul_one, List.map_append, cn0, cn1, cn2, cn3, cn16, Nat.reduceMul, eqA, tk1, tm2, List.append_assoc]))
  · simp only [Fact, Bool.not_eq_true', Bool.not_eq_false', decide_eq_true_eq, decide_eq_false_iff_not] at h; simp [hexA, h]
  refine wpx_loop (fun k : Nat => ⟨lk [(0, .str d), (3, .sl (some 5) 1 (bts (hexL (d.take k)))), (8, .int .i64 d.length), (9, .int .i64 (k : Int))], lk []⟩) (fun k => k ≤ d.length) (fun k => d.length - k) 0 (by omega) (Le_lit (by simp [LeL, lk, hexL])) ?_
  intro k h1
  have hc := (d.getD k 0).toNat_lt
  simp only [↓Ed, Eu, ↓reduceIte, reduceCtorEq, Nat.reduceAdd, Nat.reduceEqDiff, Nat.reduceLT, Nat.reduceLeDiff, Int.reduceToNat, Int.reduceEq, Int.reduceLT, Int.reduceLE, w64, List.length_append, List.length_map, sh4, an15, List.length_take, hexL_len, Nat.mul_one, List.map_append, cn0, cn1, cn2, cn3, cn16, Nat.reduceMul, eqA, tk1, tm2, List.append_assoc]
  repeat' ((first | refine BytesW_intro (hexL d) (by simp [byteEl]) ?_ | refine NewB_intro0 (fun b => ?_) | (refine NewB_intro (fun b hb => ?_); simp only [ln_cons2, ln_nil, and_true] at hb) | (with_reducible apply And.intro; (focus (first | omega | (simp only [Fact, Bool.not_eq_true', Bool.not_eq_false', decide_eq_true_eq, decide_eq_false_iff_not] at *; omega)))) | ((first | refine gW_sp ?_ | refine condW_sp ?_ | refine pickW_sp ?_); (try refine Sp_n ?_); (first | refine Sp_t (by assumption) ?_ | refine Sp_f (by assumption) ?_ | refine Sp_split (fun h => ?_) (fun h => ?_)) <;> (first | have h' := Fact_lt h | have h' := Fact_nlt h | have h' := Fact_le h | have h' := Fact_nle h | skip) <;> (try (exfalso; omega))) | refine TreeW_intro (by rfl) ?_ | refine TreeW_all ?_ | refine upQ_intro ?_ | refine Two_intro ?_ ?_ | (refine leK_lit ?_; (simp [-List.getD_eq_getElem?_getD, LeL, lk, *]; done)) | (refine leK_dd ?_; (simp [-List.getD_eq_getElem?_getD, LeS, LeL, lk, *]; done)) | (simp only [Fact, Bool.not_eq_true', Bool.not_eq_false', decide_eq_true_eq, decide_eq_false_iff_not] at *; refine leK_dd ?_; (simp [-List.getD_eq_getElem?_getD, LeS, LeL, lk, *]; done)) | (show (_ : Nat) ≤ _; omega)) <;> (try simp (disch := omega) only [*, ↓Ed, Eu, ↓reduceIte, reduceCtorEq, Nat.reduceAdd, Nat.reduceEqDiff, Nat.reduceLT, Nat.reduceLeDiff, Int.reduceToNat, Int.reduceEq, Int.reduceLT, Int.reduceLE, w64, List.length_append, List.length_map, sh4, an15, List.length_take, hexL_len, Nat.mul_one, List.map_append, cn0, cn1, cn2, cn3, cn16, Nat.reduceMul, eqA, tk1, tm2, List.append_assoc]))
  · have e1 := dg_hex (n := (d.getD k 0).toNat / 16) (by omega)
    have e2 := dg_hex (n := (d.getD k 0).toNat % 16) (by omega)
    rw [e1, e2]
    refine Round_lit (k + 1) ⟨Le_lit ?_, by omega, by omega⟩
    rw [hex_step (by omega)]
    simp [LeL, lk, byteEl]
  · simp only [Fact, Bool.not_eq_true', Bool.not_eq_false', decide_eq_true_eq, decide_eq_false_iff_not] at *
    rw [List.take_of_length_le (by omega)]
    simp [hexA, *]
/-- digits to sixteen, taken back -/
def unhB (s : List UInt8) : Bool := if s = [45] then true else match unh s with
  | none => false
  | some _ => decide (0 < s.length) && decide (s.length % 2 = 0)
theorem unh_step {s : List UInt8} {i : Nat} (h : i + 1 < s.length) : unh (s.drop i) = if 0 ≤ hv (s.getD i 0) ∧ 0 ≤ hv (s.getD (i + 1) 0) then (unh (s.drop (i + 2))).map (UInt8.ofNat (16 * (hv (s.getD i 0)).toNat + (hv (s.getD (i + 1) 0)).toNat) :: ·) else none := by
  rw [List.drop_eq_getElem_cons (by omega : i < s.length), List.drop_eq_getElem_cons h, unh]
  simp [List.getD, List.getElem?_eq_getElem (by omega : i < s.length), List.getElem?_eq_getElem h]
theorem unh_short {s : List UInt8} (h : s.length ≤ 1) : unh s = some [] := by
  match s, h with
  | [], _ => rfl
  | [_], _ => rfl
def UnI (s out : List UInt8) (i : Nat) : Prop := unh s = (unh (s.drop i)).map (out ++ ·)
theorem unI_step {s out : List UInt8} {i : Nat} (h : i + 1 < s.length) (hI : UnI s out i) (ha : 0 ≤ hv (s.getD i 0)) (hb : 0 ≤ hv (s.getD (i + 1) 0)) : UnI s (out ++ [UInt8.ofNat (16 * (hv (s.getD i 0)).toNat + (hv (s.getD (i + 1) 0)).toNat)]) (i + 2) := by
  unfold UnI at *
  rw [hI, unh_step h, if_pos ⟨ha, hb⟩, Option.map_map]
  congr 1
  funext x
  simp
theorem unI_bad {s out : List UInt8} {i : Nat} (h : i + 1 < s.length) (hI : UnI s out i) (hb : ¬ (0 ≤ hv (s.getD i 0) ∧ 0 ≤ hv (s.getD (i + 1) 0))) : unh s = none := by
  unfold UnI at *
  rw [hI, unh_step h, if_neg hb]; rfl
theorem unI_end {s out : List UInt8} {i : Nat} (h : s.length ≤ i + 1) (hI : UnI s out i) : unh s = some out := by
  unfold UnI at *
  rw [hI, unh_short (by simp; omega)]; simp
theorem p_IdxD (c : UInt8) : CP Tryd.prog 84 [.str dgs, .int .u8 (c.toNat : Int)] (.int .i64 (hv c)) := p_IdxB dgs c
end Go.Proofs.YtlefegihikpilaaDoor

/- chapter 32: the program's lines -/
namespace Go.Proofs.YtlefegihikpilaaDoor
set_option linter.all false
open Go.RowKit
set_option maxRecDepth 100000
theorem gdS {l : List (List UInt8)} {i : Nat} (h : i < l.length) : (strs l).getD i [] = [.str (l.getD i [])] := by simp [strs, h]
theorem itoa_len17 {n : Int} (h : rngN n) : (Lib.itoa n).length ≤ 17 := by
  rw [itoa_dig h.1]
  exact dig_len 16 _ (by have := h.2; have := h.1; omega)
theorem hexA_len (d : List UInt8) : (hexA d).length ≤ 2 * d.length + 1 := by
  unfold hexA
  split
  · simp
  · rw [hexL_len]; omega
theorem body_len {x : Act} (h : mayQ x) : (bodyA x).length ≤ 2 * x.d.length + 100 := by
  obtain ⟨h1, h2, _, _, _, hc, hn, hm⟩ := h
  have e1 := itoa_len17 hc
  have e2 := itoa_len17 hn
  have e3 := itoa_len17 hm
  have e4 := hexA_len x.d
  have e5 : (sideW x.s).length = 1 := by unfold sideW; split <;> rfl
  have hk : x.k = 1 ∨ x.k = 2 ∨ x.k = 3 ∨ x.k = 4 ∨ x.k = 5 ∨ x.k = 6 := by omega
  have e6 : (wd x.k).length ≤ 6 := by rcases hk with e | e | e | e | e | e <;> rw [e] <;> decide
  unfold bodyA wordsA
  rcases hk with e | e | e | e | e | e <;> simp only [e, Lib.join_length, Lib.lens] <;> simp [e] at e6 ⊢ <;> rw [Lib.join_length] <;> simp [Lib.lens] <;> omega
theorem words_le (x : Act) : (wordsA x).length ≤ 140737488355328 := by
  unfold wordsA
  simp only [List.length_append, List.length_cons, List.cons_append]
  split <;> split <;> (try split) <;> (try split) <;> simp
set_option maxHeartbeats 80000000 in
theorem p_line (x : Act) (h : mayQ x) (hd : x.d.length ≤ 8000000) : CP Tryd.prog 29 [.agg x.cs] (.str (lineA x)) := by
  have hm : maxLen = 9223372036854775807 := rfl
  have hb := body_len h
  have hj := fun o => p_Join o 32 (wordsA x) (words_le x) (Nat.le_trans hb (by omega))
  have hb2 : (Lib.join (wordsA x) [32]).length ≤ 20000000 := Nat.le_trans hb (by omega)
  have hl : lineA x = Lib.join (wordsA x) [32] ++ [10] := rfl
  obtain ⟨h1, h2, h3, h4, h5, hc, hn, hmm⟩ := h
  obtain ⟨k, s, c, n, m, d⟩ := x
  simp only [rngN] at h1 h2 h3 h4 h5 hc hn hmm hd
  have hs : s = 0 ∨ s = 1 := by omega
  have hk : k = 1 ∨ k = 2 ∨ k = 3 ∨ k = 4 ∨ k = 5 ∨ k = 6 := by omega
  rw [hl]
  have h5' : (k = 5 ∨ k = 6) → s = 0 := fun hk => by rcases hk with rfl | rfl <;> simp [plainA] at h3 <;> omega
  clear h3 hl hb
  generalize hg : Lib.join (wordsA ⟨k, s, c, n, m, d⟩) [32] = body at hj hb2 ⊢
  refine ok_play_line _ _ (by simp) ?_
  rcases hk with rfl | rfl | rfl | rfl | rfl | rfl <;> rcases hs with rfl | rfl
  all_goals simp only [c_play_line, ↓Ed, Eu, ↓reduceIte, reduceCtorEq, Nat.reduceAdd, Nat.reduceEqDiff, Nat.reduceLT, Nat.reduceLeDiff, Int.reduceToNat, Int.reduceEq, Int.reduceLT, Int.reduceLE, w64, List.length_append, List.length_map, Nat.mul_one, List.map_append, Nat.reduceMul, List.append_assoc, gdS, List.cons_append, List.nil_append, or_self, or_false, false_or, or_true, true_or]
  all_goals repeat' ((first | refine CallO_pure (p_pword _) ?_ | refine CallO_pure (p_sideless _) ?_ | refine CallW_intro (p_Itoa _ (by omega)) ?_ | refine CallW_intro (p_hex _ (by omega)) ?_ | refine CallO_pure (p_Itoa _ (by omega)) ?_ | refine CallO_pure (p_hex _ (by omega)) ?_ | refine CallO_pure (hj none) ?_ | refine NewB_intro0 (fun b => ?_) | (refine NewB_intro (fun b hb => ?_); simp only [ln_cons2, ln_nil, and_true] at hb) | (with_reducible apply And.intro; (focus (first | omega | (simp only [Fact, Bool.not_eq_true', Bool.not_eq_false', decide_eq_true_eq, decide_eq_false_iff_not] at *; omega)))) | ((first | refine gW_sp ?_ | refine condW_sp ?_ | refine pickW_sp ?_); (try refine Sp_n ?_); (first | refine Sp_t (by assumption) ?_ | refine Sp_f (by assumption) ?_ | refine Sp_split (fun h => ?_) (fun h => ?_)) <;> (first | have h' := Fact_lt h | have h' := Fact_nlt h | have h' := Fact_le h | have h' := Fact_nle h | skip) <;> (try (exfalso; omega))) | refine TreeW_intro (by rfl) ?_ | refine TreeW_all ?_ | refine upQ_intro ?_ | refine Two_intro ?_ ?_ | (refine leK_lit ?_; (simp [-List.getD_eq_getElem?_getD, LeL, lk, *]; done)) | (refine leK_dd ?_; (simp [-List.getD_eq_getElem?_getD, LeS, LeL, lk, *]; done)) | (simp only [Fact, Bool.not_eq_true', Bool.not_eq_false', decide_eq_true_eq, decide_eq_false_iff_not] at *; refine leK_dd ?_; (simp [-List.getD_eq_getElem?_getD, LeS, LeL, lk, *]; done)) | (show (_ : Nat) ≤ _; omega)) <;> (try simp (disch := omega) only [*, ↓Ed, Eu, ↓reduceIte, reduceCtorEq, Nat.reduceAdd, Nat.reduceEqDiff, Nat.reduceLT, Nat.reduceLeDiff, Int.reduceToNat, Int.reduceEq, Int.reduceLT, Int.reduceLE, w64, List.length_append, List.length_map, Nat.mul_one, List.map_append, Nat.reduceMul, List.append_assoc, gdS, List.cons_append, List.nil_append, or_self, or_false, false_or, or_true, true_or]))
end Go.Proofs.YtlefegihikpilaaDoor

/- chapter 32: the program's read -/
namespace Go.Proofs.YtlefegihikpilaaDoor
set_option linter.all false
open Go.RowKit
set_option maxRecDepth 100000
theorem tkm (k : Nat) : ((k : Int) - 1).toNat = k - 1 := by omega
theorem tk0 : (0 : Int).toNat = 0 := rfl
theorem tk2 : (2 : Int).toNat = 2 := rfl
theorem tk3 : (3 : Int).toNat = 3 := rfl
theorem tk4 : (4 : Int).toNat = 4 := rfl
def kindU (t : List UInt8) : Nat → Int
  | 0 => 0
  | k + 1 => if t = wd ((k : Int) + 1) then (k : Int) + 1 else kindU t k
theorem kindU6 (t : List UInt8) : kindU t 6 = kindA t := by
  by_cases h1 : t = wd 1
  · subst h1; decide
  by_cases h2 : t = wd 2
  · subst h2; decide
  by_cases h3 : t = wd 3
  · subst h3; decide
  by_cases h4 : t = wd 4
  · subst h4; decide
  by_cases h5 : t = wd 5
  · subst h5; decide
  by_cases h6 : t = wd 6
  · subst h6; decide
  simp only [kindU, kindA, if_neg h1, if_neg h2, if_neg h3, if_neg h4, if_neg h5, if_neg h6]
  have e : ∀ k : Nat, k < 6 → ¬ t = wd ((k : Int) + 1) := by
    intro k hk
    have : k = 0 ∨ k = 1 ∨ k = 2 ∨ k = 3 ∨ k = 4 ∨ k = 5 := by omega
    rcases this with rfl | rfl | rfl | rfl | rfl | rfl <;> assumption
  rw [if_neg (e 5 (by omega)), if_neg (e 4 (by omega)), if_neg (e 3 (by omega)), if_neg (e 2 (by omega)), if_neg (e 1 (by omega)), if_neg (e 0 (by omega))]
end Go.Proofs.YtlefegihikpilaaDoor

/- chapter 32: the program's Print -/
namespace Go.Proofs.YtlefegihikpilaaDoor
set_option linter.all false
open Go.RowKit
set_option maxRecDepth 100000
abbrev acts (l : List Act) : List (List AV) := l.map Act.cs
theorem gdA {l : List Act} {i : Nat} (h : i < l.length) : (acts l).getD i [] = (l.getD i default).cs := by simp [acts, h]
theorem fm_step {l : List Act} {k : Nat} (h : k < l.length) : (l.take (k + 1)).flatMap lineA = (l.take k).flatMap lineA ++ lineA (l.getD k default) := by
  have e : l.take (k + 1) = l.take k ++ [l.getD k default] := by rw [List.take_succ]; simp [h]
  rw [e]; simp
theorem fm_len {l : List Act} (hd : ∀ x ∈ l, x.d.length ≤ 10000) : ∀ k, k ≤ l.length → (∀ j, j < k → mayA (l.getD j default) = true) → ((l.take k).flatMap lineA).length ≤ k * 20101
  | 0, _, _ => by simp
  | k + 1, hk, h => by
    rw [fm_step (by omega), List.length_append]
    have := fm_len hd k (by omega) (fun j hj => h j (by omega))
    have hq : mayQ (l.getD k default) := of_decide_eq_true (h k (by omega))
    have h2 := body_len hq
    have h3 := hd (l.getD k default) (by rw [List.getD, List.getElem?_eq_getElem (by omega)]; exact List.getElem_mem _)
    simp only [lineA, List.length_append, List.length_cons, List.length_nil]
    omega
theorem all_may {l : List Act} : l.all mayA = true ↔ ∀ j, j < l.length → mayA (l.getD j default) = true := by
  rw [List.all_eq_true]
  constructor
  · intro h j hj
    rw [List.getD, List.getElem?_eq_getElem hj]; exact h _ (List.getElem_mem hj)
  · intro h x hx
    obtain ⟨j, hj, rfl⟩ := List.getElem_of_mem hx
    have := h j hj
    rwa [List.getD, List.getElem?_eq_getElem hj] at this
theorem print_bad {l : List Act} {k : Nat} (hl : ¬ 400 < l.length) (hk : k < l.length) (h : mayA (l.getD k default) = false) : printA l = ([], 1) := by
  unfold printA
  rw [if_neg hl, if_neg]
  intro g
  rw [all_may.1 g k hk] at h; cases h
theorem print_ok {l : List Act} (hl : ¬ 400 < l.length) (h : ∀ j, j < l.length → mayA (l.getD j default) = true) : printA l = (l.flatMap lineA, 0) := by
  unfold printA
  rw [if_neg hl, if_pos (all_may.2 h)]
theorem may_step {l : List Act} {k : Nat} (h : ∀ j, j < k → mayA (l.getD j default) = true) (g : mayA (l.getD k default) = true) : ∀ j, j < k + 1 → mayA (l.getD j default) = true := fun j hj => by
  by_cases e : j = k
  · subst e; exact g
  · exact h j (by omega)
set_option maxHeartbeats 4000000 in
theorem p_Print (own : Option Nat) (l : List Act) (hl : l.length ≤ 1000000) (hd : ∀ x ∈ l, x.d.length ≤ 10000) : CP Tryd.prog 15 [.sl own 6 (acts l)] (.tup [.str (printA l).1, .int .i64 (printA l).2]) := by
  refine ok_play_Print _ _ (by simp) ?_
  simp only [c_play_Print, ↓Ed, Eu, ↓reduceIte, reduceCtorEq, Nat.reduceAdd, Nat.reduceEqDiff, Nat.reduceLT, Nat.reduceLeDiff, Int.reduceToNat, Int.reduceEq, Int.reduceLT, Int.reduceLE, w64, List.length_append, List.length_map, Nat.mul_one, gdA, Act.cs, bl]
  repeat' ((first | refine NewB_intro0 (fun b => ?_) | (refine NewB_intro (fun b hb => ?_); simp only [ln_cons2, ln_nil, and_true] at hb) | (with_reducible apply And.intro; (focus (first | omega | (simp only [Fact, Bool.not_eq_true', Bool.not_eq_false', decide_eq_true_eq, decide_eq_false_iff_not] at *; omega)))) | ((first | refine gW_sp ?_ | refine condW_sp ?_ | refine pickW_sp ?_); (try refine Sp_n ?_); (first | refine Sp_t (by assumption) ?_ | refine Sp_f (by assumption) ?_ | refine Sp_split (fun h => ?_) (fun h => ?_)) <;> (first | have h' := Fact_lt h | have h' := Fact_nlt h | have h' := Fact_le h | have h' := Fact_nle h | skip) <;> (try (exfalso; omega))) | refine TreeW_intro (by rfl) ?_ | refine TreeW_all ?_ | refine upQ_intro ?_ | refine Two_intro ?_ ?_ | (refine leK_lit ?_; (simp [-List.getD_eq_getElem?_getD, LeL, lk, *]; done)) | (refine leK_dd ?_; (simp [-List.getD_eq_getElem?_getD, LeS, LeL, lk, *]; done)) | (simp only [Fact, Bool.not_eq_true', Bool.not_eq_false', decide_eq_true_eq, decide_eq_false_iff_not] at *; refine leK_dd ?_; (simp [-List.getD_eq_getElem?_getD, LeS, LeL, lk, *]; done)) | (show (_ : Nat) ≤ _; omega)) <;> (try simp (disch := omega) only [*, ↓Ed, Eu, ↓reduceIte, reduceCtorEq, Nat.reduceAdd, Nat.reduceEqDiff, Nat.reduceLT, Nat.reduceLeDiff, Int.reduceToNat, Int.reduceEq, Int.reduceLT, Int.reduceLE, w64, List.length_append, List.length_map, Nat.mul_one, gdA, Act.cs, bl]))
  · simp only [Fact, Bool.not_eq_true', Bool.not_eq_false', decide_eq_true_eq, decide_eq_false_iff_not] at h; unfold printA; rw [if_pos (by omega)]; exact ⟨rfl, rfl⟩
  have h4 : ¬ 400 < l.length := by simp only [Fact, Bool.not_eq_true', Bool.not_eq_false', decide_eq_true_eq, decide_eq_false_iff_not] at h; omega
  rename Nat => d
  refine wpx_loop (fun k : Nat => ⟨lk [(4, .ptr d 0), (10, .sl none 6 (acts l)), (11, .int .i64 l.length), (12, .int .i64 (k : Int))], lk [(d, bl d k ((l.take k).flatMap lineA))]⟩) (fun k => k ≤ l.length ∧ Fact (∀ j, j < k → mayA (l.getD j default) = true)) (fun k => l.length - k) 0 ⟨by omega, fun j hj => by omega⟩ (Le_lit (by simp [LeL, lk, bl, bts])) ?_
  rintro k ⟨h1, h2⟩
  have hlen := fm_len hd k h1 h2
  by_cases hk : k < l.length
  · have hdx := hd (l.getD k default) (by rw [List.getD, List.getElem?_eq_getElem hk]; exact List.getElem_mem _)
    cases hmay : mayA (l.getD k default) with
    | false =>
      rw [print_bad h4 hk hmay]
      have hp := p_aMay (l.getD k default)
      rw [hmay] at hp
      simp (disch := omega) only [↓Ed, Eu, ↓reduceIte, reduceCtorEq, Nat.reduceAdd, Nat.reduceEqDiff, Nat.reduceLT, Nat.reduceLeDiff, Int.reduceToNat, Int.reduceEq, Int.reduceLT, Int.reduceLE, w64, List.length_append, List.length_map, Nat.mul_one, gdA, Act.cs, bl]
      repeat' ((first | refine CallO_pure (hp) ?_ | refine NewB_intro0 (fun b => ?_) | (refine NewB_intro (fun b hb => ?_); simp only [ln_cons2, ln_nil, and_true] at hb) | (with_reducible apply And.intro; (focus (first | omega | (simp only [Fact, Bool.not_eq_true', Bool.not_eq_false', decide_eq_true_eq, decide_eq_false_iff_not] at *; omega)))) | ((first | refine gW_sp ?_ | refine condW_sp ?_ | refine pickW_sp ?_); (try refine Sp_n ?_); (first | refine Sp_t (by assumption) ?_ | refine Sp_f (by assumption) ?_ | refine Sp_split (fun h => ?_) (fun h => ?_)) <;> (first | have h' := Fact_lt h | have h' := Fact_nlt h | have h' := Fact_le h | have h' := Fact_nle h | skip) <;> (try (exfalso; omega))) | refine TreeW_intro (by rfl) ?_ | refine TreeW_all ?_ | refine upQ_intro ?_ | refine Two_intro ?_ ?_ | (refine leK_lit ?_; (simp [-List.getD_eq_getElem?_getD, LeL, lk, *]; done)) | (refine leK_dd ?_; (simp [-List.getD_eq_getElem?_getD, LeS, LeL, lk, *]; done)) | (simp only [Fact, Bool.not_eq_true', Bool.not_eq_false', decide_eq_true_eq, decide_eq_false_iff_not] at *; refine leK_dd ?_; (simp [-List.getD_eq_getElem?_getD, LeS, LeL, lk, *]; done)) | (show (_ : Nat) ≤ _; omega)) <;> (try simp (disch := omega) only [*, ↓Ed, Eu, ↓reduceIte, reduceCtorEq, Nat.reduceAdd, Nat.reduceEqDiff, Nat.reduceLT, Nat.reduceLeDiff, Int.reduceToNat, Int.reduceEq, Int.reduceLT, Int.reduceLE, w64, List.length_append, List.length_map, Nat.mul_one, gdA, Act.cs, bl]))
    | true =>
      have hq : mayQ (l.getD k default) := of_decide_eq_true hmay
      have hp := p_aMay (l.getD k default)
      rw [hmay] at hp
      have hb2 := body_len hq
      have hln := p_line (l.getD k default) hq (by omega)
      have hl2 : (lineA (l.getD k default)).length ≤ 30000 := by simp only [lineA, List.length_append, List.length_cons, List.length_nil]; omega
      have hst := fm_step hk
      rcases Nat.eq_zero_or_pos k with h0 | h0
      · subst h0
        have hw := fun b => t_Write0 b (lineA (l.getD 0 default)) (by omega)
        simp (disch := omega) only [↓Ed, Eu, ↓reduceIte, reduceCtorEq, Nat.reduceAdd, Nat.reduceEqDiff, Nat.reduceLT, Nat.reduceLeDiff, Int.reduceToNat, Int.reduceEq, Int.reduceLT, Int.reduceLE, w64, List.length_append, List.length_map, Nat.mul_one, gdA, Act.cs, bl]
        repeat' ((first | refine CallO_pure (hp) ?_ | refine CallO_pure (hln) ?_ | (refine' CallO_det (hw d) (lk_sub1 ?_) ?_; rotate_right 2; (focus ((repeat (first | exact lk_hd _ _ _ | (refine lk_tl ?_ ?_; (focus (first | assumption | (simp only [*, not_false_eq_true]; done)))))); done))) | refine NewB_intro0 (fun b => ?_) | (refine NewB_intro (fun b hb => ?_); simp only [ln_cons2, ln_nil, and_true] at hb) | (with_reducible apply And.intro; (focus (first | omega | (simp only [Fact, Bool.not_eq_true', Bool.not_eq_false', decide_eq_true_eq, decide_eq_false_iff_not] at *; omega)))) | ((first | refine gW_sp ?_ | refine condW_sp ?_ | refine pickW_sp ?_); (try refine Sp_n ?_); (first | refine Sp_t (by assumption) ?_ | refine Sp_f (by assumption) ?_ | refine Sp_split (fun h => ?_) (fun h => ?_)) <;> (first | have h' := Fact_lt h | have h' := Fact_nlt h | have h' := Fact_le h | have h' := Fact_nle h | skip) <;> (try (exfalso; omega))) | refine TreeW_intro (by rfl) ?_ | refine TreeW_all ?_ | refine upQ_intro ?_ | refine Two_intro ?_ ?_ | (refine leK_lit ?_; (simp [-List.getD_eq_getElem?_getD, LeL, lk, *]; done)) | (refine leK_dd ?_; (simp [-List.getD_eq_getElem?_getD, LeS, LeL, lk, *]; done)) | (simp only [Fact, Bool.not_eq_true', Bool.not_eq_false', decide_eq_true_eq, decide_eq_false_iff_not] at *; refine leK_dd ?_; (simp [-List.getD_eq_getElem?_getD, LeS, LeL, lk, *]; done)) | (show (_ : Nat) ≤ _; omega)) <;> (try simp (disch := omega) only [*, ↓Ed, Eu, ↓reduceIte, reduceCtorEq, Nat.reduceAdd, Nat.reduceEqDiff, Nat.reduceLT, Nat.reduceLeDiff, Int.reduceToNat, Int.reduceEq, Int.reduceLT, Int.reduceLE, w64, List.length_append, List.length_map, Nat.mul_one, gdA, Act.cs, bl]))
        exact Round_lit (0 + 1) ⟨Le_lit (by simp [LeL, lk, hb, hst, bl, bts]), ⟨by omega, may_step h2 hmay⟩, by omega⟩
      · have hw := fun b => t_Write b ((l.take k).flatMap lineA) (lineA (l.getD k default)) (by omega)
        have hk0 : ¬ k = 0 := by omega
        simp (disch := omega) only [hk0, ↓Ed, Eu, ↓reduceIte, reduceCtorEq, Nat.reduceAdd, Nat.reduceEqDiff, Nat.reduceLT, Nat.reduceLeDiff, Int.reduceToNat, Int.reduceEq, Int.reduceLT, Int.reduceLE, w64, List.length_append, List.length_map, Nat.mul_one, gdA, Act.cs, bl]
        repeat' ((first | refine CallO_pure (hp) ?_ | refine CallO_pure (hln) ?_ | (refine' CallO_det (hw d) (lk_sub1 ?_) ?_; rotate_right 2; (focus ((repeat (first | exact lk_hd _ _ _ | (refine lk_tl ?_ ?_; (focus (first | assumption | (simp only [*, not_false_eq_true]; done)))))); done))) | refine NewB_intro0 (fun b => ?_) | (refine NewB_intro (fun b hb => ?_); simp only [ln_cons2, ln_nil, and_true] at hb) | (with_reducible apply And.intro; (focus (first | omega | (simp only [Fact, Bool.not_eq_true', Bool.not_eq_false', decide_eq_true_eq, decide_eq_false_iff_not] at *; omega)))) | ((first | refine gW_sp ?_ | refine condW_sp ?_ | refine pickW_sp ?_); (try refine Sp_n ?_); (first | refine Sp_t (by assumption) ?_ | refine Sp_f (by assumption) ?_ | refine Sp_split (fun h => ?_) (fun h => ?_)) <;> (first | have h' := Fact_lt h | have h' := Fact_nlt h | have h' := Fact_le h | have h' := Fact_nle h | skip) <;> (try (exfalso; omega))) | refine TreeW_intro (by rfl) ?_ | refine TreeW_all ?_ | refine upQ_intro ?_ | refine Two_intro ?_ ?_ | (refine leK_lit ?_; (simp [-List.getD_eq_getElem?_getD, LeL, lk, *]; done)) | (refine leK_dd ?_; (simp [-List.getD_eq_getElem?_getD, LeS, LeL, lk, *]; done)) | (simp only [Fact, Bool.not_eq_true', Bool.not_eq_false', decide_eq_true_eq, decide_eq_false_iff_not] at *; refine leK_dd ?_; (simp [-List.getD_eq_getElem?_getD, LeS, LeL, lk, *]; done)) | (show (_ : Nat) ≤ _; omega)) <;> (try simp (disch := omega) only [*, ↓Ed, Eu, ↓reduceIte, reduceCtorEq, Nat.reduceAdd, Nat.reduceEqDiff, Nat.reduceLT, Nat.reduceLeDiff, Int.reduceToNat, Int.reduceEq, Int.reduceLT, Int.reduceLE, w64, List.length_append, List.length_map, Nat.mul_one, gdA, Act.cs, bl]))
        exact Round_lit (k + 1) ⟨Le_lit (by simp [LeL, lk, hb, hst, bl, bts]), ⟨by omega, may_step h2 hmay⟩, by omega⟩
  · obtain rfl : k = l.length := by omega
    rw [print_ok h4 h2]
    simp (disch := omega) only [↓Ed, Eu, ↓reduceIte, reduceCtorEq, Nat.reduceAdd, Nat.reduceEqDiff, Nat.reduceLT, Nat.reduceLeDiff, Int.reduceToNat, Int.reduceEq, Int.reduceLT, Int.reduceLE, w64, List.length_append, List.length_map, Nat.mul_one, gdA, Act.cs, bl]
    repeat' ((first | (refine' CallO_det (t_String d _ _ (.inr trivial)) (lk_sub1 ?_) ?_; rotate_right 2; (focus ((repeat (first | exact lk_hd _ _ _ | (refine lk_tl ?_ ?_; (focus (first | assumption | (simp only [*, not_false_eq_true]; done)))))); done))) | refine NewB_intro0 (fun b => ?_) | (refine NewB_intro (fun b hb => ?_); simp only [ln_cons2, ln_nil, and_true] at hb) | (with_reducible apply And.intro; (focus (first | omega | (simp only [Fact, Bool.not_eq_true', Bool.not_eq_false', decide_eq_true_eq, decide_eq_false_iff_not] at *; omega)))) | ((first | refine gW_sp ?_ | refine condW_sp ?_ | refine pickW_sp ?_); (try refine Sp_n ?_); (first | refine Sp_t (by assumption) ?_ | refine Sp_f (by assumption) ?_ | refine Sp_split (fun h => ?_) (fun h => ?_)) <;> (first | have h' := Fact_lt h | have h' := Fact_nlt h | have h' := Fact_le h | have h' := Fact_nle h | skip) <;> (try (exfalso; omega))) | refine TreeW_intro (by rfl) ?_ | refine TreeW_all ?_ | refine upQ_intro ?_ | refine Two_intro ?_ ?_ | (refine leK_lit ?_; (simp [-List.getD_eq_getElem?_getD, LeL, lk, *]; done)) | (refine leK_dd ?_; (simp [-List.getD_eq_getElem?_getD, LeS, LeL, lk, *]; done)) | (simp only [Fact, Bool.not_eq_true', Bool.not_eq_false', decide_eq_true_eq, decide_eq_false_iff_not] at *; refine leK_dd ?_; (simp [-List.getD_eq_getElem?_getD, LeS, LeL, lk, *]; done)) | (show (_ : Nat) ≤ _; omega)) <;> (try simp (disch := omega) only [*, ↓Ed, Eu, ↓reduceIte, reduceCtorEq, Nat.reduceAdd, Nat.reduceEqDiff, Nat.reduceLT, Nat.reduceLeDiff, Int.reduceToNat, Int.reduceEq, Int.reduceLT, Int.reduceLE, w64, List.length_append, List.length_map, Nat.mul_one, gdA, Act.cs, bl]))
    rw [List.take_length]
end Go.Proofs.YtlefegihikpilaaDoor

/- chapter 32: the program's Parse -/
namespace Go.Proofs.YtlefegihikpilaaDoor
set_option linter.all false
open Go.RowKit
set_option maxRecDepth 100000
theorem unh_len : ∀ {s o : List UInt8}, unh s = some o → o.length ≤ s.length
  | [], o, h => by simp [unh] at h; subst h; simp
  | [_], o, h => by simp [unh] at h; subst h; simp
  | a :: b :: r, o, h => by
    rw [unh] at h
    split at h
    · cases h2 : unh r with
      | none => rw [h2] at h; cases h
      | some q =>
        rw [h2] at h
        simp only [Option.map_some, Option.some.injEq] at h
        subst h
        have := unh_len h2
        simp only [List.length_cons]; omega
    · cases h
theorem unhexA_len (s : List UInt8) : (unhexA s).length ≤ s.length := by
  unfold unhexA
  split
  · simp
  · cases h : unh s with
    | none => simp
    | some o => simpa using unh_len h
theorem readA_len {w : List (List UInt8)} {n : Nat} (h : ∀ i, (w.getD i []).length ≤ n) : (readA w).d.length ≤ n := by
  simp only [readA]
  split
  · exact Nat.le_trans (unhexA_len _) (h _)
  · simp
theorem spx_pos (z : UInt8) (s : List UInt8) : 0 < (spx z s).length := List.length_pos_iff.2 (spx_ne z s)
theorem spx_count (z : UInt8) : ∀ s : List UInt8, (spx z s).length ≤ s.length + 1
  | [] => by simp [spx]
  | c :: t => by
    have := spx_count z t
    rw [spx]
    split
    · simp; omega
    · split
      · simp
      · rename_i x xs e
        rw [e] at this
        simp at this ⊢; omega
theorem line_bad {t s r : List UInt8} (hs : s = t ++ 10 :: r) (hn : 10 ∉ t) (h : mayA (readA (spx 32 t)) = true) (hp : Lib.hasPrefix s (lineA (readA (spx 32 t))) = false) : lnA t = none := by
  unfold lnA
  rw [if_neg]
  rintro ⟨_, g⟩
  rw [(pre_line (of_decide_eq_true h) hs hn).2 g] at hp
  cases hp
theorem line_bad2 {t : List UInt8} (h : mayA (readA (spx 32 t)) = false) : lnA t = none := by
  unfold lnA
  rw [if_neg]
  rintro ⟨g, _⟩
  rw [h] at g; cases g
theorem line_ok {t s r : List UInt8} (hs : s = t ++ 10 :: r) (hn : 10 ∉ t) (h : mayA (readA (spx 32 t)) = true) (hp : Lib.hasPrefix s (lineA (readA (spx 32 t))) = true) : lnA t = some (readA (spx 32 t)) := by
  unfold lnA
  rw [if_pos ⟨h, (pre_line (of_decide_eq_true h) hs hn).1 hp⟩]
end Go.Proofs.YtlefegihikpilaaDoor

/- chapter 32: the document's digits to sixteen, lines, words -/
namespace Go.Proofs.YtlefegihikpilaaDoor
set_option linter.all false
open Go.RowKit
set_option maxRecDepth 100000
theorem td16 (u : Nat) : (u : Int).tdiv 16 = ((u / 16 : Nat) : Int) := rfl
theorem tm16 (u : Nat) : (u : Int).tmod 16 = ((u % 16 : Nat) : Int) := rfl
theorem u8e (a b : UInt8) : ((a.toNat : Int) = (b.toNat : Int)) = (a = b) := propext ⟨fun h => UInt8.toNat_inj.1 (by omega), fun h => by rw [h]⟩
theorem hexd_lo {n : Nat} (h : n < 10) : (hexd n).toNat = 48 + n := by unfold hexd; rw [if_pos h, u8n (by omega)]
theorem hexd_hi {n : Nat} (h : ¬ n < 10) (h2 : n < 16) : (hexd n).toNat = 87 + n := by unfold hexd; rw [if_neg h, u8n (by omega)]
/-- the last of the first bytes that two digits tell -/
def fh (a b : UInt8) : Nat → Int
  | 0 => -1
  | v + 1 => if hexd (v / 16) = a ∧ hexd (v % 16) = b then v else fh a b v
theorem hv_iff {n : Nat} (h : n < 16) (a : UInt8) : hexd n = a ↔ hv a = n := by
  constructor
  · rintro rfl; exact hv_hexd ⟨n, h⟩
  · intro e
    have := (hexd_hv' (c := a) (by omega)).1
    rw [e] at this; simpa using this
theorem fh_eq (a b : UInt8) : ∀ v, v ≤ 256 → fh a b v = if 0 ≤ hv a ∧ 0 ≤ hv b ∧ 16 * hv a + hv b < v then 16 * hv a + hv b else -1
  | 0, _ => by rw [fh, if_neg (by omega)]
  | v + 1, h => by
    have e : (hexd (v / 16) = a ∧ hexd (v % 16) = b) ↔ (hv a = (v / 16 : Nat) ∧ hv b = (v % 16 : Nat)) := by rw [hv_iff (by omega), hv_iff (by omega)]
    rw [fh, fh_eq a b v (by omega)]
    by_cases h1 : hv a = (v / 16 : Nat) ∧ hv b = (v % 16 : Nat)
    · rw [if_pos (e.2 h1), if_pos (by omega)]; omega
    · rw [if_neg (fun g => h1 (e.1 g))]
      by_cases h2 : 0 ≤ hv a ∧ 0 ≤ hv b ∧ 16 * hv a + hv b < v
      · rw [if_pos h2, if_pos (by omega)]
      · rw [if_neg h2, if_neg]
        rintro ⟨g1, g2, g3⟩
        have e1 := (hexd_hv' g1).2
        have e2 := (hexd_hv' g2).2
        exact h1 (by omega)
theorem fh256 (a b : UInt8) : fh a b 256 = if 0 ≤ hv a ∧ 0 ≤ hv b then 16 * hv a + hv b else -1 := by
  rw [fh_eq a b 256 (Nat.le_refl _)]
  by_cases h : 0 ≤ hv a ∧ 0 ≤ hv b
  · have e1 := (hexd_hv' h.1).2
    have e2 := (hexd_hv' h.2).2
    rw [if_pos h, if_pos (by omega)]
  · rw [if_neg h, if_neg (fun g => h ⟨g.1, g.2.1⟩)]
def frB (s : List UInt8) : Bool := match unh s with
  | none => false
  | some _ => decide (s.length % 2 = 0)
end Go.Proofs.YtlefegihikpilaaDoor

/- chapter 32: the document's lines, words, what may be told -/
namespace Go.Proofs.YtlefegihikpilaaDoor
set_option linter.all false
open Go.RowKit
set_option maxRecDepth 100000
theorem spx_last {s : List UInt8} {f : Nat} {z : UInt8} (hn : ∀ j, f ≤ j → j < s.length → ¬ s.getD j 0 = z) : spx z (s.drop f) = [s.drop f] := by
  refine spx_none fun hm => ?_
  obtain ⟨j, hj, e⟩ := List.getElem_of_mem hm
  rw [List.length_drop] at hj
  refine hn (f + j) (by omega) (by omega) ?_
  rw [List.getD, List.getElem?_eq_getElem (by omega)]
  simpa using e
theorem spx_mid {s : List UInt8} {f i : Nat} {z : UInt8} (hf : f ≤ i) (hi : i < s.length) (hz : s.getD i 0 = z) (hn : ∀ j, f ≤ j → j < i → ¬ s.getD j 0 = z) : spx z (s.drop f) = List.drop f (List.take i s) :: spx z (s.drop (i + 1)) := by
  have h1 : z ∉ List.drop f (List.take i s) := by
    intro hm
    obtain ⟨j, hj, e⟩ := List.getElem_of_mem hm
    rw [List.length_drop, List.length_take] at hj
    refine hn (f + j) (by omega) (by omega) ?_
    rw [List.getD, List.getElem?_eq_getElem (by omega)]
    simpa using e
  have h2 : s.drop f = List.drop f (List.take i s) ++ z :: s.drop (i + 1) := by
    have e : s[i] = z := by rw [List.getD, List.getElem?_eq_getElem hi] at hz; exact hz
    rw [← e, ← List.drop_eq_getElem_cons hi, List.drop_take]
    have : s.drop i = (s.drop f).drop (i - f) := by rw [List.drop_drop]; congr 1; omega
    rw [this, List.take_append_drop]
  rw [h2, spx_cut h1]
def SpJ (s : List UInt8) (out : List (List UInt8)) (f i : Nat) : Prop :=
  (i ≤ s.length ∧ f ≤ i ∧ out ++ spx 32 (s.drop f) = spx 32 s ∧ ∀ j, f ≤ j → j < i → ¬ s.getD j 0 = 32) ∨ (i = s.length + 1 ∧ out = spx 32 s)
theorem u32 {c : UInt8} : ((c.toNat : Int) = 32) ↔ c = 32 := ⟨fun h => UInt8.toNat_inj.1 (by have : (32 : UInt8).toNat = 32 := rfl; omega), fun h => by rw [h]; rfl⟩
theorem nil_len (s : List UInt8) : (s = []) = (s.length = 0) := propext List.length_eq_zero_iff.symm
theorem may_iff (x : Act) : mayQ x ↔ 1 ≤ x.k ∧ x.k ≤ 6 ∧ (x.k = 1 ∨ (x.c = 0 ∧ x.m = 0 ∧ (x.k = 2 ∨ x.n = 0) ∧ (x.k = 4 ∨ x.d.length = 0) ∧ (x.k = 5 ∨ x.k = 6 → x.s = 0))) ∧ 0 ≤ x.s ∧ x.s ≤ 1 ∧
    (0 ≤ x.c ∧ x.c ≤ 72057594037927935) ∧ (0 ≤ x.n ∧ x.n ≤ 72057594037927935) ∧ (0 ≤ x.m ∧ x.m ≤ 72057594037927935) := by
  have e : x = plainA x ↔ (x.k = 1 ∨ (x.c = 0 ∧ x.m = 0 ∧ (x.k = 2 ∨ x.n = 0) ∧ (x.k = 4 ∨ x.d.length = 0) ∧ (x.k = 5 ∨ x.k = 6 → x.s = 0))) := by
    obtain ⟨k, s, c, n, m, d⟩ := x
    simp only [plainA]
    by_cases h1 : k = 1
    · simp [h1]
    · rw [if_neg h1]
      simp only [Act.mk.injEq, ← nil_len]
      constructor
      · rintro ⟨_, g2, g3, g4, g5, g6⟩
        refine .inr ⟨g3, g5, ?_, ?_, fun h => by rw [if_pos h] at g2; exact g2⟩
        · by_cases h : k = 2
          · exact .inl h
          · rw [if_neg h] at g4; exact .inr g4
        · by_cases h : k = 4
          · exact .inl h
          · rw [if_neg h] at g6; exact .inr g6
      · rintro (g | ⟨g3, g5, g4, g6, g2⟩)
        · exact absurd g h1
        · refine ⟨trivial, ?_, g3, ?_, g5, ?_⟩
          · by_cases h : k = 5 ∨ k = 6
            · rw [if_pos h]; exact g2 h
            · rw [if_neg h]
          · by_cases h : k = 2
            · rw [if_pos h]
            · rw [if_neg h]; exact g4.resolve_left h
          · by_cases h : k = 4
            · rw [if_pos h]
            · rw [if_neg h]; exact g6.resolve_left h
  unfold mayQ rngN
  rw [e]
end Go.Proofs.YtlefegihikpilaaDoor

/- chapter 32: the document's act of a line: no act, commit, round, turn -/
namespace Go.Proofs.YtlefegihikpilaaDoor
set_option linter.all false
open Go.RowKit
set_option maxRecDepth 100000
theorem ne78 : (([97] : List UInt8) = [98]) = False := by simp
theorem ne87 : (([98] : List UInt8) = [97]) = False := by simp
theorem cn4 : ((4 : Nat) : Int) = 4 := rfl
theorem cn5 : ((5 : Nat) : Int) = 5 := rfl
theorem cn6 : ((6 : Nat) : Int) = 6 := rfl
def want (k : Int) : Nat := if k = 1 then 6 else if k = 2 then 3 else if k = 3 then 2 else if k = 4 then 3 else 1
def hexOk (s : List UInt8) : Prop := s = [45] ∨ (frB s = true ∧ ¬ s = [])
/-- What the document asks of a line's words before it looks at the act. -/
structure DocOk (w : List (List UInt8)) : Prop where
  k : kindA (w.getD 0 []) ≠ 0
  l : w.length = want (kindA (w.getD 0 []))
  s : 1 < w.length → w.getD 1 [] = [97] ∨ w.getD 1 [] = [98]
  n1 : kindA (w.getD 0 []) = 1 → (numP (w.getD 2 [])).2 = 0 ∧ (numP (w.getD 3 [])).2 = 0 ∧ (numP (w.getD 4 [])).2 = 0
  n2 : kindA (w.getD 0 []) = 2 → (numP (w.getD 2 [])).2 = 0
  x1 : kindA (w.getD 0 []) = 1 → hexOk (w.getD 5 [])
  x4 : kindA (w.getD 0 []) = 4 → hexOk (w.getD 2 [])
theorem kind_rng (t : List UInt8) : kindA t = 0 ∨ kindA t = 1 ∨ kindA t = 2 ∨ kindA t = 3 ∨ kindA t = 4 ∨ kindA t = 5 ∨ kindA t = 6 := by
  unfold kindA
  split; simp; split; simp; split; simp; split; simp; split; simp; split <;> simp
theorem num_rng {s : List UInt8} (h : (numP s).2 = 0) : rngN (numP s).1 := by
  unfold numP at h ⊢
  unfold rngN
  split
  · rename_i g; rw [if_pos g] at h; cases h
  · rename_i g; rw [if_neg g] at h
    split
    · rename_i g2; rw [if_pos g2] at h; cases h
    · rename_i g2; rw [if_neg g2] at h
      split
      · rename_i g3; rw [if_pos g3] at h; cases h
      · rename_i g3; rw [if_neg g3] at h
        split
        · rename_i g4; rw [if_pos g4] at h; cases h
        · simp only; omega
theorem may1 {s a b c : Int} {d : List UInt8} (hs : s = 0 ∨ s = 1) (h1 : rngN a) (h2 : rngN b) (h3 : rngN c) : mayA ⟨1, s, a, b, c, d⟩ = true :=
  mayA_t ⟨by simp, by simp, by simp [plainA], by rcases hs with rfl | rfl <;> simp, by rcases hs with rfl | rfl <;> simp, h1, h2, h3⟩
theorem may2 {s n : Int} (hs : s = 0 ∨ s = 1) (h : rngN n) : mayA ⟨2, s, 0, n, 0, []⟩ = true :=
  mayA_t ⟨by simp, by simp, by simp [plainA], by rcases hs with rfl | rfl <;> simp, by rcases hs with rfl | rfl <;> simp, by unfold rngN; simp, h, by unfold rngN; simp⟩
theorem may4 {s : Int} {d : List UInt8} (hs : s = 0 ∨ s = 1) : mayA ⟨4, s, 0, 0, 0, d⟩ = true :=
  mayA_t ⟨by simp, by simp, by simp [plainA], by rcases hs with rfl | rfl <;> simp, by rcases hs with rfl | rfl <;> simp, by unfold rngN; simp, by unfold rngN; simp, by unfold rngN; simp⟩
/-- The reading. -/
def ActR (t : List UInt8) (r : AV) : Prop :=
  (¬ DocOk (spx 32 t) → r = .tup [.agg Act.zero.cs, .bool false]) ∧ (DocOk (spx 32 t) → r = .tup [.agg (readA (spx 32 t)).cs, .bool (mayA (readA (spx 32 t)) && decide (lineA (readA (spx 32 t)) = t ++ [10]))])
theorem unh_getlen (s : List UInt8) : ((unh s).getD []).length ≤ s.length := by
  cases h : unh s with
  | none => simp
  | some o => simpa using unh_len h
end Go.Proofs.YtlefegihikpilaaDoor

/- chapter 32: the document's act of a line: tick, raw -/
namespace Go.Proofs.YtlefegihikpilaaDoor
set_option linter.all false
open Go.RowKit
set_option maxRecDepth 100000
end Go.Proofs.YtlefegihikpilaaDoor

/- chapter 32: the document's act of a line: send -/
namespace Go.Proofs.YtlefegihikpilaaDoor
set_option linter.all false
open Go.RowKit
set_option maxRecDepth 100000
end Go.Proofs.YtlefegihikpilaaDoor

/- chapter 32: the document's act, whole -/
namespace Go.Proofs.YtlefegihikpilaaDoor
set_option linter.all false
open Go.RowKit
set_option maxRecDepth 100000
theorem num_it2 {n : Int} (h : rngN n) : (numP (Lib.itoa n)).2 = 0 := by
  rw [itoa_dig h.1, num_dig (by unfold rngN at h; omega)]
theorem hexOk_hexA (d : List UInt8) : hexOk (hexA d) := by
  unfold hexA
  split
  · exact .inl rfl
  · rename_i h
    refine .inr ⟨?_, fun e => ?_⟩
    · simp only [frB, unh_hexL, hexL_len]; simp
    · have := congrArg List.length e
      rw [hexL_len] at this
      have := List.length_pos_iff.2 h
      simp at *; omega
theorem docOk_words {x : Act} (h : mayQ x) : DocOk (wordsA x) := by
  obtain ⟨h1, h2, h3, h4, h5, hc, hn, hm⟩ := h
  obtain ⟨k, s, c, n, m, d⟩ := x
  simp only at h1 h2 h3 h4 h5 hc hn hm
  have hk : k = 1 ∨ k = 2 ∨ k = 3 ∨ k = 4 ∨ k = 5 ∨ k = 6 := by omega
  have hs : s = 0 ∨ s = 1 := by omega
  have e1 : ∀ j : Int, 1 ≤ j → j ≤ 6 → kindA (wd j) = j := fun j a b => kind_wd ⟨a, b⟩
  clear h3
  rcases hk with rfl | rfl | rfl | rfl | rfl | rfl <;> rcases hs with rfl | rfl
  all_goals
    refine ⟨?_, ?_, ?_, ?_, ?_, ?_, ?_⟩
    all_goals simp [wordsA, e1, want, sideW, num_it2, hc, hn, hm, hexOk_hexA]
open Classical in
noncomputable def docX (t : List UInt8) : Act := if DocOk (spx 32 t) then readA (spx 32 t) else Act.zero
theorem docX_of {t : List UInt8} {x : Act} (h : lnA t = some x) : docX t = x := by
  obtain ⟨h1, rfl⟩ := lnA_some.1 h
  unfold docX
  rw [body_sp h1, if_pos (docOk_words h1), read_words h1]
theorem doc_no {t : List UInt8} (h : ¬ DocOk (spx 32 t)) : lnA t = none := by
  cases e : lnA t with
  | none => rfl
  | some x =>
    obtain ⟨h1, rfl⟩ := lnA_some.1 e
    exact absurd (by rw [body_sp h1]; exact docOk_words h1) h
theorem doc_yes (t : List UInt8) : (mayA (readA (spx 32 t)) && decide (lineA (readA (spx 32 t)) = t ++ [10])) = (lnA t).isSome := by
  have e : lineA (readA (spx 32 t)) = t ++ [10] ↔ bodyA (readA (spx 32 t)) = t := by
    unfold lineA
    exact ⟨fun h => (List.append_inj' h rfl).1, fun h => by rw [h]⟩
  unfold lnA
  by_cases hm : mayA (readA (spx 32 t)) = true
  · by_cases hb : bodyA (readA (spx 32 t)) = t
    · rw [if_pos ⟨hm, hb⟩, hm, decide_eq_true (e.2 hb)]; rfl
    · rw [if_neg (fun g => hb g.2), hm, decide_eq_false (fun g => hb (e.1 g))]; rfl
  · rw [if_neg (fun g => hm g.1), Bool.eq_false_iff.2 hm]; rfl
end Go.Proofs.YtlefegihikpilaaDoor

/- chapter 32: the document's Print and Parse -/
namespace Go.Proofs.YtlefegihikpilaaDoor
set_option linter.all false
open Go.RowKit
set_option maxRecDepth 100000
theorem u10 {c : UInt8} : ((c.toNat : Int) = 10) = (c = 10) := propext ⟨fun h => UInt8.toNat_inj.1 (by have : (10 : UInt8).toNat = 10 := rfl; omega), fun h => by rw [h]; rfl⟩
theorem cut_mid {s : List UInt8} {f i : Nat} (hf : f ≤ i) (hi : i < s.length) (hz : s.getD i 0 = 10) (hn : ∀ j, f ≤ j → j < i → ¬ s.getD j 0 = 10) : cutL (s.drop f) = some (List.drop f (List.take i s), s.drop (i + 1)) := by
  refine cutL_some.2 ⟨?_, ?_⟩
  · have e : s[i] = 10 := by rw [List.getD, List.getElem?_eq_getElem hi] at hz; exact hz
    rw [← e, ← List.drop_eq_getElem_cons hi, List.drop_take]
    have : s.drop i = (s.drop f).drop (i - f) := by rw [List.drop_drop]; congr 1; omega
    rw [this, List.take_append_drop]
  · intro hm
    obtain ⟨j, hj, e⟩ := List.getElem_of_mem hm
    rw [List.length_drop, List.length_take] at hj
    refine hn (f + j) (by omega) (by omega) ?_
    rw [List.getD, List.getElem?_eq_getElem (by omega)]
    simpa using e
theorem cut_end {s : List UInt8} {f : Nat} (hn : ∀ j, f ≤ j → j < s.length → ¬ s.getD j 0 = 10) : cutL (s.drop f) = none := by
  refine cutL_none.2 fun hm => ?_
  obtain ⟨j, hj, e⟩ := List.getElem_of_mem hm
  rw [List.length_drop] at hj
  refine hn (f + j) (by omega) (by omega) ?_
  rw [List.getD, List.getElem?_eq_getElem (by omega)]
  simpa using e
theorem drop_ne {s : List UInt8} {f : Nat} (h : f < s.length) : s.drop f ≠ [] := by
  intro e
  have := congrArg List.length e
  simp at this; omega
end Go.Proofs.YtlefegihikpilaaDoor

/- chapter 32: what the laws begin with: the example, few acts, lists of acts held against each other -/
namespace Go.Proofs.YtlefegihikpilaaDoor
set_option linter.all false
open Go.RowKit
set_option maxRecDepth 100000
def lightB (l : List Act) (n : Int) : Bool := decide ((l.length : Int) ≤ n) && l.all fun x => decide (x.d.length ≤ 4000)
theorem light_all {l : List Act} : (l.all fun x => decide (x.d.length ≤ 4000)) = true ↔ ∀ j, j < l.length → (l.getD j default).d.length ≤ 4000 := by
  rw [List.all_eq_true]
  constructor
  · intro h j hj
    rw [List.getD, List.getElem?_eq_getElem hj]
    simpa using h _ (List.getElem_mem hj)
  · intro h x hx
    obtain ⟨j, hj, rfl⟩ := List.getElem_of_mem hx
    have := h j hj
    rw [List.getD, List.getElem?_eq_getElem hj] at this
    simpa using this
theorem light_mem {l : List Act} {n : Int} (h : lightB l n = true) : (l.length : Int) ≤ n ∧ ∀ x ∈ l, x.d.length ≤ 4000 := by
  simp only [lightB, Bool.and_eq_true, decide_eq_true_eq, List.all_eq_true] at h
  exact h
theorem acts_eq {a b : List Act} (hl : a.length = b.length) (h : ∀ j, j < a.length → a.getD j default = b.getD j default) : a = b := by
  apply List.ext_getElem hl
  intro j h1 h2
  have := h j h1
  simpa [List.getD, List.getElem?_eq_getElem h1, List.getElem?_eq_getElem h2] using this
end Go.Proofs.YtlefegihikpilaaDoor

/- chapter 32: what the laws begin with: the example; PlayTells -/
namespace Go.Proofs.YtlefegihikpilaaDoor
set_option linter.all false
open Go.RowKit
set_option maxRecDepth 100000
theorem it0 : Lib.itoa 0 = [48] := by rw [itoa_dig (by omega), show (0 : Int).toNat = 0 from rfl, dig_lo (by omega)]; rfl
theorem it7 : Lib.itoa 7 = [55] := by rw [itoa_dig (by omega), show (7 : Int).toNat = 7 from rfl, dig_lo (by omega)]; rfl
theorem p_Show0 (a b c d e f : Nat) : CP Tryd.prog 6 [.agg [.int .i64 0, .int .i64 0, .int .i64 0, .int .i64 0, .nils a 2, .nils b 5, .nils c 5, .nils d 6, .nils e 2, .nils f 2, .int .i64 0]] (.str [48]) := by
  refine ok_play_Show _ _ (by simp) ?_
  have hi := p_Itoa 0 (by omega)
  rw [it0] at hi
  have hj := p_Join none 32 [[48]] (by simp) (by rw [Lib.join_one]; simp)
  rw [Lib.join_one] at hj
  simp only [c_play_Show, ↓Ed, Eu, ↓reduceIte, reduceCtorEq, Nat.reduceAdd, Nat.reduceEqDiff, Nat.reduceLT, Nat.reduceLeDiff, Int.reduceToNat, Int.reduceEq, Int.reduceLT, Int.reduceLE, w64, List.length_append, List.length_map, Nat.mul_one, Act.cs, gdA, eqA, beq_self_eq_true, it7]
  repeat' ((first | refine CallO_pure (hi) ?_ | refine CallW_intro (hi) ?_ | refine CallO_pure (hj) ?_ | refine NewB_intro0 (fun b => ?_) | (refine NewB_intro (fun b hb => ?_); simp only [ln_cons2, ln_nil, and_true] at hb) | (with_reducible apply And.intro; (focus (first | omega | (simp only [Fact, Bool.not_eq_true', Bool.not_eq_false', decide_eq_true_eq, decide_eq_false_iff_not] at *; omega)))) | ((first | refine gW_sp ?_ | refine condW_sp ?_ | refine pickW_sp ?_); (try refine Sp_n ?_); (first | refine Sp_t (by assumption) ?_ | refine Sp_f (by assumption) ?_ | refine Sp_split (fun h => ?_) (fun h => ?_)) <;> (first | have h' := Fact_lt h | have h' := Fact_nlt h | have h' := Fact_le h | have h' := Fact_nle h | skip) <;> (try (exfalso; omega))) | refine TreeW_intro (by rfl) ?_ | refine TreeW_all ?_ | refine upQ_intro ?_ | refine Two_intro ?_ ?_ | (refine leK_lit ?_; (simp [-List.getD_eq_getElem?_getD, LeL, lk, *]; done)) | (refine leK_dd ?_; (simp [-List.getD_eq_getElem?_getD, LeS, LeL, lk, *]; done)) | (simp only [Fact, Bool.not_eq_true', Bool.not_eq_false', decide_eq_true_eq, decide_eq_false_iff_not] at *; refine leK_dd ?_; (simp [-List.getD_eq_getElem?_getD, LeS, LeL, lk, *]; done)) | (show (_ : Nat) ≤ _; omega)) <;> (try simp (disch := omega) only [*, ↓Ed, Eu, ↓reduceIte, reduceCtorEq, Nat.reduceAdd, Nat.reduceEqDiff, Nat.reduceLT, Nat.reduceLeDiff, Int.reduceToNat, Int.reduceEq, Int.reduceLT, Int.reduceLE, w64, List.length_append, List.length_map, Nat.mul_one, Act.cs, gdA, eqA, beq_self_eq_true, it7]))
  rename Nat => g
  refine wpx_loop (fun _ : Nat => ⟨lk [(1, .ptr g 0), (3, .sl (some 9) 1 [[.str [48]]]), (30, .sl none 2 []), (31, .int .i64 0), (32, .int .i64 0)], lk [(g, [.int .i64 0, .int .i64 0, .int .i64 0, .int .i64 0, .nils a 2, .nils b 5, .nils c 5, .nils d 6, .nils e 2, .nils f 2, .int .i64 0])]⟩) (fun _ => True) (fun _ => 0) 0 trivial (Le_lit (by simp [LeL, lk])) ?_
  rintro k -
  simp (disch := omega) only [↓Ed, Eu, ↓reduceIte, reduceCtorEq, Nat.reduceAdd, Nat.reduceEqDiff, Nat.reduceLT, Nat.reduceLeDiff, Int.reduceToNat, Int.reduceEq, Int.reduceLT, Int.reduceLE, w64, List.length_append, List.length_map, Nat.mul_one, Act.cs, gdA, eqA, beq_self_eq_true, it7]
  repeat' ((first | refine CallO_pure (hi) ?_ | refine CallW_intro (hi) ?_ | refine CallO_pure (hj) ?_ | refine NewB_intro0 (fun b => ?_) | (refine NewB_intro (fun b hb => ?_); simp only [ln_cons2, ln_nil, and_true] at hb) | (with_reducible apply And.intro; (focus (first | omega | (simp only [Fact, Bool.not_eq_true', Bool.not_eq_false', decide_eq_true_eq, decide_eq_false_iff_not] at *; omega)))) | ((first | refine gW_sp ?_ | refine condW_sp ?_ | refine pickW_sp ?_); (try refine Sp_n ?_); (first | refine Sp_t (by assumption) ?_ | refine Sp_f (by assumption) ?_ | refine Sp_split (fun h => ?_) (fun h => ?_)) <;> (first | have h' := Fact_lt h | have h' := Fact_nlt h | have h' := Fact_le h | have h' := Fact_nle h | skip) <;> (try (exfalso; omega))) | refine TreeW_intro (by rfl) ?_ | refine TreeW_all ?_ | refine upQ_intro ?_ | refine Two_intro ?_ ?_ | (refine leK_lit ?_; (simp [-List.getD_eq_getElem?_getD, LeL, lk, *]; done)) | (refine leK_dd ?_; (simp [-List.getD_eq_getElem?_getD, LeS, LeL, lk, *]; done)) | (simp only [Fact, Bool.not_eq_true', Bool.not_eq_false', decide_eq_true_eq, decide_eq_false_iff_not] at *; refine leK_dd ?_; (simp [-List.getD_eq_getElem?_getD, LeS, LeL, lk, *]; done)) | (show (_ : Nat) ≤ _; omega)) <;> (try simp (disch := omega) only [*, ↓Ed, Eu, ↓reduceIte, reduceCtorEq, Nat.reduceAdd, Nat.reduceEqDiff, Nat.reduceLT, Nat.reduceLeDiff, Int.reduceToNat, Int.reduceEq, Int.reduceLT, Int.reduceLE, w64, List.length_append, List.length_map, Nat.mul_one, Act.cs, gdA, eqA, beq_self_eq_true, it7]))
theorem p_first : CP Tryd.prog 5 [] (.bool true) := by
  have hp := p_Print none [⟨2, 1, 0, 7, 0, []⟩] (by simp) (by simp)
  have e : printA [⟨2, 1, 0, 7, 0, []⟩] = ([116, 105, 99, 107, 32, 98, 32, 55, 10], 0) := by
    unfold printA
    rw [if_neg (by simp), if_pos (by decide)]
    simp [lineA, bodyA, wordsA, wd, sideW, it7, Lib.join_cons, Lib.joinTail]
  rw [e] at hp
  have hs := p_Show0
  refine ok_liglaw32_first _ _ (by simp) ?_
  simp only [c_liglaw32_first, ↓Ed, Eu, ↓reduceIte, reduceCtorEq, Nat.reduceAdd, Nat.reduceEqDiff, Nat.reduceLT, Nat.reduceLeDiff, Int.reduceToNat, Int.reduceEq, Int.reduceLT, Int.reduceLE, w64, List.length_append, List.length_map, Nat.mul_one, Act.cs, gdA, eqA, beq_self_eq_true, it7]
  repeat' ((first | refine CallO_pure (hp) ?_ | refine CallO_pure (hs _ _ _ _ _ _) ?_ | refine NewB_intro0 (fun b => ?_) | (refine NewB_intro (fun b hb => ?_); simp only [ln_cons2, ln_nil, and_true] at hb) | (with_reducible apply And.intro; (focus (first | omega | (simp only [Fact, Bool.not_eq_true', Bool.not_eq_false', decide_eq_true_eq, decide_eq_false_iff_not] at *; omega)))) | ((first | refine gW_sp ?_ | refine condW_sp ?_ | refine pickW_sp ?_); (try refine Sp_n ?_); (first | refine Sp_t (by assumption) ?_ | refine Sp_f (by assumption) ?_ | refine Sp_split (fun h => ?_) (fun h => ?_)) <;> (first | have h' := Fact_lt h | have h' := Fact_nlt h | have h' := Fact_le h | have h' := Fact_nle h | skip) <;> (try (exfalso; omega))) | refine TreeW_intro (by rfl) ?_ | refine TreeW_all ?_ | refine upQ_intro ?_ | refine Two_intro ?_ ?_ | (refine leK_lit ?_; (simp [-List.getD_eq_getElem?_getD, LeL, lk, *]; done)) | (refine leK_dd ?_; (simp [-List.getD_eq_getElem?_getD, LeS, LeL, lk, *]; done)) | (simp only [Fact, Bool.not_eq_true', Bool.not_eq_false', decide_eq_true_eq, decide_eq_false_iff_not] at *; refine leK_dd ?_; (simp [-List.getD_eq_getElem?_getD, LeS, LeL, lk, *]; done)) | (show (_ : Nat) ≤ _; omega)) <;> (try simp (disch := omega) only [*, ↓Ed, Eu, ↓reduceIte, reduceCtorEq, Nat.reduceAdd, Nat.reduceEqDiff, Nat.reduceLT, Nat.reduceLeDiff, Int.reduceToNat, Int.reduceEq, Int.reduceLT, Int.reduceLE, w64, List.length_append, List.length_map, Nat.mul_one, Act.cs, gdA, eqA, beq_self_eq_true, it7]))
theorem parse_len (s : List UInt8) : (parseA s).1.length ≤ 10000000 := by
  by_cases h : (parseA s).2.2 = 0
  · obtain ⟨_, l, e, _, _, h5⟩ := parse_ok s.length [] s (parseA s).1 (parseA s).2.1 (by rw [← h]; rfl) (Nat.le_refl _) (by simp)
    exact Nat.le_trans h5 (by omega)
  · rw [show (parseA s).1 = [] from (parse_bad _ _ _ h).1]; simp
theorem print_len {l : List Act} (h : ∀ x ∈ l, x.d.length ≤ 10000) : (printA l).1.length ≤ 8040400 := by
  unfold printA
  split
  · simp
  · split
    · rename_i h1 h2
      have := fm_len h l.length (Nat.le_refl _) (fun j hj => all_may.1 h2 j hj)
      rw [List.take_length] at this
      simp only; omega
    · simp
end Go.Proofs.YtlefegihikpilaaDoor

/- how an outcome is told: words, and the text of them -/
namespace Go.Proofs.YtlefegihikpilaaDoor
set_option linter.all false
def seqB : List UInt8 := [115, 101, 113]
def doneB : List UInt8 := [100, 111, 110, 101]
def preW (c q : Nat) (d : Bool) : List (List UInt8) := dig c :: ((if q = 0 then [] else [seqB, dig q]) ++ (if d then [doneB] else []))
def planW (ni ns nt : Nat) : List (List UInt8) := if ni = 0 then [] else [[112, 108, 97, 110], dig ni, [115, 107, 105, 112], dig ns, [116, 120], dig nt]
def showW (c q : Nat) (rs : List Nat) (ni ns nt : Nat) : List (List UInt8) := preW c q (!rs.isEmpty) ++ rs.map dig ++ planW ni ns nt
def tailW (l : List (List UInt8)) : List UInt8 := (l.map ([32] ++ ·)).flatten
theorem tailW_app (a b : List (List UInt8)) : tailW (a ++ b) = tailW a ++ tailW b := by simp [tailW]
def preS (c q : Nat) (d : Bool) : List UInt8 := dig c ++ (if q = 0 then [] else [32, 115, 101, 113, 32] ++ dig q) ++ (if d then [32, 100, 111, 110, 101] else [])
def planS (ni ns nt : Nat) : List UInt8 := if ni = 0 then [] else [32, 112, 108, 97, 110, 32] ++ dig ni ++ [32, 115, 107, 105, 112, 32] ++ dig ns ++ [32, 116, 120, 32] ++ dig nt
def showS (c q : Nat) (rs : List Nat) (ni ns nt : Nat) : List UInt8 := preS c q (!rs.isEmpty) ++ tailW (rs.map dig) ++ planS ni ns nt
theorem join_show (c q : Nat) (rs : List Nat) (ni ns nt : Nat) : Lib.join (showW c q rs ni ns nt) [32] = showS c q rs ni ns nt := by
  unfold showW preW
  rw [List.cons_append, List.cons_append, Lib.join_cons]
  have e : ∀ l : List (List UInt8), Lib.joinTail [32] l = tailW l := fun _ => rfl
  rw [e, tailW_app, tailW_app, tailW_app]
  unfold showS preS planW planS
  by_cases hq : q = 0 <;> by_cases hn : ni = 0 <;> cases rs <;> simp [hq, hn, tailW, seqB, doneB]
theorem tailW_len {l : List (List UInt8)} {n : Nat} (h : ∀ w ∈ l, w.length ≤ n) : (tailW l).length ≤ l.length * (n + 1) := by
  induction l with
  | nil => simp [tailW]
  | cons w l ih =>
    have := ih fun x hx => h x (by simp [hx])
    have := h w (by simp)
    simp only [tailW, List.map_cons, List.flatten_cons, List.length_append, List.length_cons, List.length_nil] at *
    rw [Nat.succ_mul]; omega
theorem dig_17 {n : Nat} (h : n ≤ 72057594037927935) : (dig n).length ≤ 17 := dig_len 16 n (by omega)
theorem preS_len {c q : Nat} (d : Bool) (h1 : c ≤ 72057594037927935) (h2 : q ≤ 72057594037927935) : (preS c q d).length ≤ 44 := by
  have := dig_17 h1; have := dig_17 h2
  unfold preS
  cases d <;> by_cases hq : q = 0 <;> simp [hq] <;> omega
theorem rs_len {rs : List Nat} (h : ∀ x ∈ rs, x ≤ 72057594037927935) : (tailW (rs.map dig)).length ≤ rs.length * 18 := by
  have := tailW_len (l := rs.map dig) (n := 17) fun w hw => by
    obtain ⟨x, hx, rfl⟩ := List.mem_map.1 hw
    exact dig_17 (h x hx)
  simpa using this
theorem planS_len {ni ns nt : Nat} (h1 : ni ≤ 72057594037927935) (h2 : ns ≤ 72057594037927935) (h3 : nt ≤ 72057594037927935) : (planS ni ns nt).length ≤ 67 := by
  have := dig_17 h1; have := dig_17 h2; have := dig_17 h3
  unfold planS
  split
  · simp
  · simp; omega
theorem show_len {c q : Nat} {rs : List Nat} {ni ns nt : Nat} (h1 : c ≤ 72057594037927935) (h2 : q ≤ 72057594037927935) (h3 : ∀ x ∈ rs, x ≤ 72057594037927935) (h4 : ni ≤ 72057594037927935) (h5 : ns ≤ 72057594037927935) (h6 : nt ≤ 72057594037927935) (hl : rs.length ≤ 1000) : (showS c q rs ni ns nt).length ≤ 20000 := by
  have := preS_len (!rs.isEmpty) h1 h2; have := rs_len h3; have := planS_len h4 h5 h6
  simp only [showS, List.length_append]; omega
theorem take_dig (rs : List Nat) (k : Nat) (h : k < rs.length) : (rs.take (k + 1)).map dig = (rs.take k).map dig ++ [dig (rs.getD k 0)] := by
  rw [List.take_add_one, List.map_append]; congr 1; simp [List.getD, h]
theorem tail_step (rs : List Nat) (k : Nat) (h : k < rs.length) : tailW ((rs.take (k + 1)).map dig) = tailW ((rs.take k).map dig) ++ ([32] ++ dig (rs.getD k 0)) := by
  rw [take_dig rs k h, tailW_app]; simp [tailW]
end Go.Proofs.YtlefegihikpilaaDoor
