import Derived.Test.YtfkkjhnbbimcaaaDoorK11
/- chapter 32: the program's acts: May, hex, unhex -/
namespace Go.Proofs.YtfkkjhnbbimcaaaDoor
set_option linter.all false
open Go.RowKit
set_option maxRecDepth 100000
theorem cn0 : ((0 : Nat) : Int) = 0 := rfl
theorem cn1 : ((1 : Nat) : Int) = 1 := rfl
theorem cn2 : ((2 : Nat) : Int) = 2 := rfl
theorem cn3 : ((3 : Nat) : Int) = 3 := rfl
theorem tk1 (k : Nat) : ((k : Int) + 1).toNat = k + 1 := by omega
theorem tm2 (n : Nat) : (n : Int).tmod 2 = ((n % 2 : Nat) : Int) := rfl
theorem cn16 : ((16 : Nat) : Int) = 16 := rfl
theorem eqA (x y : Act) : (decide (x.k = y.k) && (decide (x.s = y.s) && (decide (x.c = y.c) && (decide (x.n = y.n) && (decide (x.m = y.m) && decide (x.d = y.d)))))) = decide (x = y) := by
  rw [Bool.eq_iff_iff]
  simp only [Bool.and_eq_true, decide_eq_true_eq]
  obtain ⟨a, b, c, d, e, f⟩ := x
  obtain ⟨a', b', c', d', e', f'⟩ := y
  simp
theorem rng_step {l : List Int} {k : Nat} (h : ∀ j, j < k → rngN (l.getD j 0)) (g : rngN (l.getD k 0)) : ∀ j, j < k + 1 → rngN (l.getD j 0) := fun j hj => by
  by_cases e : j = k
  · subst e; exact g
  · exact h j (by omega)
theorem mayA_f {x : Act} (h : ¬ mayQ x) : mayA x = false := by simp [mayA, h]
theorem mayA_t {x : Act} (h : mayQ x) : mayA x = true := by simp [mayA, h]
set_option maxHeartbeats 2000000 in
theorem p_aMay (x : Act) : CP Tryd.prog 20 [.agg x.cs] (.bool (mayA x)) := by
  refine ok_play_May _ _ (by simp) ?_
  simp only [c_play_May, ↓Ed, Eu, ↓reduceIte, reduceCtorEq, Nat.reduceAdd, Nat.reduceEqDiff, Nat.reduceLT, Nat.reduceLeDiff, Int.reduceToNat, Int.reduceEq, Int.reduceLT, Int.reduceLE, w64, List.length_append, List.length_map, sh4, an15, List.length_take, hexL_len, Nat.mul_one, List.map_append, cn0, cn1, cn2, cn3, cn16, Nat.reduceMul, eqA, tk1, tm2, List.append_assoc]
  repeat' ((first | refine CallW_intro (p_plain x) ?_ | refine NewB_intro0 (fun b => ?_) | (refine NewB_intro (fun b hb => ?_); simp only [ln_cons2, ln_nil, and_true] at hb) | (with_reducible apply And.intro; (focus (first | omega | (simp only [Fact, Bool.not_eq_true', Bool.not_eq_false', decide_eq_true_eq, decide_eq_false_iff_not] at *; omega)))) | ((first | refine gW_sp ?_ | refine condW_sp ?_ | refine pickW_sp ?_); (try refine Sp_n ?_); (first | refine Sp_t (by assumption) ?_ | refine Sp_f (by assumption) ?_ | refine Sp_split (fun h => ?_) (fun h => ?_)) <;> (first | have h' := Fact_lt h | have h' := Fact_nlt h | have h' := Fact_le h | have h' := Fact_nle h | skip) <;> (try (exfalso; omega))) | refine TreeW_intro (by rfl) ?_ | refine Two_intro ?_ ?_ | exact leK_lit (by simp [LeL, lk, *]) | (show (_ : Nat) ≤ _; omega)) <;> (try simp (disch := omega) only [*, ↓Ed, Eu, ↓reduceIte, reduceCtorEq, Nat.reduceAdd, Nat.reduceEqDiff, Nat.reduceLT, Nat.reduceLeDiff, Int.reduceToNat, Int.reduceEq, Int.reduceLT, Int.reduceLE, w64, List.length_append, List.length_map, sh4, an15, List.length_take, hexL_len, Nat.mul_one, List.map_append, cn0, cn1, cn2, cn3, cn16, Nat.reduceMul, eqA, tk1, tm2, List.append_assoc]))
  case' refine_2.refine_2.refine_1.refine_2.refine_2 =>
    refine wpx_loop (fun k : Nat => ⟨lk [(35, .agg [.int .i64 x.c, .int .i64 x.n, .int .i64 x.m]), (36, .int .i64 (k : Int))], lk []⟩) (fun k => k ≤ 3 ∧ Fact (∀ j, j < k → rngN ([x.c, x.n, x.m].getD j 0))) (fun k => 3 - k) 0 ⟨by omega, fun j hj => by omega⟩ (Le_lit (by simp [LeL, lk])) ?_
    intro k ⟨h1, h2⟩
    have hk : k = 0 ∨ k = 1 ∨ k = 2 ∨ k = 3 := by omega
    rcases hk with rfl | rfl | rfl | rfl
    all_goals simp only [↓Ed, Eu, ↓reduceIte, reduceCtorEq, Nat.reduceAdd, Nat.reduceEqDiff, Nat.reduceLT, Nat.reduceLeDiff, Int.reduceToNat, Int.reduceEq, Int.reduceLT, Int.reduceLE, w64, List.length_append, List.length_map, sh4, an15, List.length_take, hexL_len, Nat.mul_one, List.map_append, cn0, cn1, cn2, cn3, cn16, Nat.reduceMul, eqA, tk1, tm2, List.append_assoc]
    all_goals repeat' ((first | refine NewB_intro0 (fun b => ?_) | (refine NewB_intro (fun b hb => ?_); simp only [ln_cons2, ln_nil, and_true] at hb) | (with_reducible apply And.intro; (focus (first | omega | (simp only [Fact, Bool.not_eq_true', Bool.not_eq_false', decide_eq_true_eq, decide_eq_false_iff_not] at *; omega)))) | ((first | refine gW_sp ?_ | refine condW_sp ?_ | refine pickW_sp ?_); (try refine Sp_n ?_); (first | refine Sp_t (by assumption) ?_ | refine Sp_f (by assumption) ?_ | refine Sp_split (fun h => ?_) (fun h => ?_)) <;> (first | have h' := Fact_lt h | have h' := Fact_nlt h | have h' := Fact_le h | have h' := Fact_nle h | skip) <;> (try (exfalso; omega))) | refine TreeW_intro (by rfl) ?_ | refine Two_intro ?_ ?_ | exact leK_lit (by simp [LeL, lk, *]) | (show (_ : Nat) ≤ _; omega)) <;> (try simp (disch := omega) only [*, ↓Ed, Eu, ↓reduceIte, reduceCtorEq, Nat.reduceAdd, Nat.reduceEqDiff, Nat.reduceLT, Nat.reduceLeDiff, Int.reduceToNat, Int.reduceEq, Int.reduceLT, Int.reduceLE, w64, List.length_append, List.length_map, sh4, an15, List.length_take, hexL_len, Nat.mul_one, List.map_append, cn0, cn1, cn2, cn3, cn16, Nat.reduceMul, eqA, tk1, tm2, List.append_assoc]))
  all_goals (try simp only [Fact, Bool.not_eq_true', Bool.not_eq_false', decide_eq_true_eq, decide_eq_false_iff_not] at *)
  all_goals first
    | exact (mayA_f fun g => by obtain ⟨g1, g2, g3, g4, g5, g6, g7, g8⟩ := g; unfold rngN at *; first | omega | exact absurd g3 (by assumption)).symm
    | exact Round_lit 1 ⟨Le_lit (by simp [LeL, lk]), ⟨by omega, rng_step h2 (by simp only [List.getD_cons_zero]; unfold rngN; omega)⟩, by omega⟩
    | exact Round_lit 2 ⟨Le_lit (by simp [LeL, lk]), ⟨by omega, rng_step h2 (by simp only [List.getD_cons_succ, List.getD_cons_zero]; unfold rngN; omega)⟩, by omega⟩
    | exact Round_lit 3 ⟨Le_lit (by simp [LeL, lk]), ⟨by omega, rng_step h2 (by simp only [List.getD_cons_succ, List.getD_cons_zero]; unfold rngN; omega)⟩, by omega⟩
    | exact (mayA_t ⟨by omega, by omega, by assumption, by omega, by omega, h2 0 (by omega), h2 1 (by omega), h2 2 (by omega)⟩).symm
    | exact mayA_t ⟨by omega, by omega, by assumption, by omega, by omega, h2 0 (by omega), h2 1 (by omega), h2 2 (by omega)⟩
    | skip
theorem take_sn {s : List UInt8} {k : Nat} (h : k < s.length) : s.take (k + 1) = s.take k ++ [s.getD k 0] := by
  rw [List.take_succ]; simp [h]
theorem hex_step {d : List UInt8} {k : Nat} (h : k < d.length) : hexL (d.take (k + 1)) = hexL (d.take k) ++ [hexd ((d.getD k 0).toNat / 16), hexd ((d.getD k 0).toNat % 16)] := by
  rw [take_sn h]
  simp [hexL, hxb]
theorem p_hex (d : List UInt8) (hd : d.length ≤ 8000000) : CP Tryd.prog 63 [.str d] (.str (hexA d)) := by
  have hm : maxLen = 9223372036854775807 := rfl
  refine ok_play_hex _ _ (by simp) ?_
  simp only [c_play_hex, ↓Ed, Eu, ↓reduceIte, reduceCtorEq, Nat.reduceAdd, Nat.reduceEqDiff, Nat.reduceLT, Nat.reduceLeDiff, Int.reduceToNat, Int.reduceEq, Int.reduceLT, Int.reduceLE, w64, List.length_append, List.length_map, sh4, an15, List.length_take, hexL_len, Nat.mul_one, List.map_append, cn0, cn1, cn2, cn3, cn16, Nat.reduceMul, eqA, tk1, tm2, List.append_assoc]
  repeat' ((first | refine NewB_intro0 (fun b => ?_) | (refine NewB_intro (fun b hb => ?_); simp only [ln_cons2, ln_nil, and_true] at hb) | (with_reducible apply And.intro; (focus (first | omega | (simp only [Fact, Bool.not_eq_true', Bool.not_eq_false', decide_eq_true_eq, decide_eq_false_iff_not] at *; omega)))) | ((first | refine gW_sp ?_ | refine condW_sp ?_ | refine pickW_sp ?_); (try refine Sp_n ?_); (first | refine Sp_t (by assumption) ?_ | refine Sp_f (by assumption) ?_ | refine Sp_split (fun h => ?_) (fun h => ?_)) <;> (first | have h' := Fact_lt h | have h' := Fact_nlt h | have h' := Fact_le h | have h' := Fact_nle h | skip) <;> (try (exfalso; omega))) | refine TreeW_intro (by rfl) ?_ | refine Two_intro ?_ ?_ | exact leK_lit (by simp [LeL, lk, *]) | (show (_ : Nat) ≤ _; omega)) <;> (try simp (disch := omega) only [*, ↓Ed, Eu, ↓reduceIte, reduceCtorEq, Nat.reduceAdd, Nat.reduceEqDiff, Nat.reduceLT, Nat.reduceLeDiff, Int.reduceToNat, Int.reduceEq, Int.reduceLT, Int.reduceLE, w64, List.length_append, List.length_map, sh4, an15, List.length_take, hexL_len, Nat.mul_one, List.map_append, cn0, cn1, cn2, cn3, cn16, Nat.reduceMul, eqA, tk1, tm2, List.append_assoc]))
  · simp only [Fact, Bool.not_eq_true', Bool.not_eq_false', decide_eq_true_eq, decide_eq_false_iff_not] at h; simp [hexA, h]
  refine wpx_loop (fun k : Nat => ⟨lk [(0, .str d), (3, .sl (some 5) 1 (bts (hexL (d.take k)))), (8, .int .i64 d.length), (9, .int .i64 (k : Int))], lk []⟩) (fun k => k ≤ d.length) (fun k => d.length - k) 0 (by omega) (Le_lit (by simp [LeL, lk, hexL])) ?_
  intro k h1
  have hc := (d.getD k 0).toNat_lt
  simp only [↓Ed, Eu, ↓reduceIte, reduceCtorEq, Nat.reduceAdd, Nat.reduceEqDiff, Nat.reduceLT, Nat.reduceLeDiff, Int.reduceToNat, Int.reduceEq, Int.reduceLT, Int.reduceLE, w64, List.length_append, List.length_map, sh4, an15, List.length_take, hexL_len, Nat.mul_one, List.map_append, cn0, cn1, cn2, cn3, cn16, Nat.reduceMul, eqA, tk1, tm2, List.append_assoc]
  repeat' ((first | refine BytesW_intro (hexL d) (by simp [byteEl]) ?_ | refine NewB_intro0 (fun b => ?_) | (refine NewB_intro (fun b hb => ?_); simp only [ln_cons2, ln_nil, and_true] at hb) | (with_reducible apply And.intro; (focus (first | omega | (simp only [Fact, Bool.not_eq_true', Bool.not_eq_false', decide_eq_true_eq, decide_eq_false_iff_not] at *; omega)))) | ((first | refine gW_sp ?_ | refine condW_sp ?_ | refine pickW_sp ?_); (try refine Sp_n ?_); (first | refine Sp_t (by assumption) ?_ | refine Sp_f (by assumption) ?_ | refine Sp_split (fun h => ?_) (fun h => ?_)) <;> (first | have h' := Fact_lt h | have h' := Fact_nlt h | have h' := Fact_le h | have h' := Fact_nle h | skip) <;> (try (exfalso; omega))) | refine TreeW_intro (by rfl) ?_ | refine Two_intro ?_ ?_ | exact leK_lit (by simp [LeL, lk, *]) | (show (_ : Nat) ≤ _; omega)) <;> (try simp (disch := omega) only [*, ↓Ed, Eu, ↓reduceIte, reduceCtorEq, Nat.reduceAdd, Nat.reduceEqDiff, Nat.reduceLT, Nat.reduceLeDiff, Int.reduceToNat, Int.reduceEq, Int.reduceLT, Int.reduceLE, w64, List.length_append, List.length_map, sh4, an15, List.length_take, hexL_len, Nat.mul_one, List.map_append, cn0, cn1, cn2, cn3, cn16, Nat.reduceMul, eqA, tk1, tm2, List.append_assoc]))
  · have e1 := dg_hex (n := (d.getD k 0).toNat / 16) (by omega)
    have e2 := dg_hex (n := (d.getD k 0).toNat % 16) (by omega)
    rw [e1, e2]
    refine Round_lit (k + 1) ⟨Le_lit ?_, by omega, by omega⟩
    rw [hex_step (by omega)]
    simp [LeL, lk, byteEl]
  · simp only [Fact, Bool.not_eq_true', Bool.not_eq_false', decide_eq_true_eq, decide_eq_false_iff_not] at *
    rw [List.take_of_length_le (by omega)]
    simp [hexA, *]
/-- digits to sixteen, taken back -/
def unhB (s : List UInt8) : Bool := if s = [45] then true else match unh s with
  | none => false
  | some _ => decide (0 < s.length) && decide (s.length % 2 = 0)
theorem unh_step {s : List UInt8} {i : Nat} (h : i + 1 < s.length) : unh (s.drop i) = if 0 ≤ hv (s.getD i 0) ∧ 0 ≤ hv (s.getD (i + 1) 0) then (unh (s.drop (i + 2))).map (UInt8.ofNat (16 * (hv (s.getD i 0)).toNat + (hv (s.getD (i + 1) 0)).toNat) :: ·) else none := by
  rw [List.drop_eq_getElem_cons (by omega : i < s.length), List.drop_eq_getElem_cons h, unh]
  simp [List.getD, List.getElem?_eq_getElem (by omega : i < s.length), List.getElem?_eq_getElem h]
theorem unh_short {s : List UInt8} (h : s.length ≤ 1) : unh s = some [] := by
  match s, h with
  | [], _ => rfl
  | [_], _ => rfl
def UnI (s out : List UInt8) (i : Nat) : Prop := unh s = (unh (s.drop i)).map (out ++ ·)
theorem unI_step {s out : List UInt8} {i : Nat} (h : i + 1 < s.length) (hI : UnI s out i) (ha : 0 ≤ hv (s.getD i 0)) (hb : 0 ≤ hv (s.getD (i + 1) 0)) : UnI s (out ++ [UInt8.ofNat (16 * (hv (s.getD i 0)).toNat + (hv (s.getD (i + 1) 0)).toNat)]) (i + 2) := by
  unfold UnI at *
  rw [hI, unh_step h, if_pos ⟨ha, hb⟩, Option.map_map]
  congr 1
  funext x
  simp
theorem unI_bad {s out : List UInt8} {i : Nat} (h : i + 1 < s.length) (hI : UnI s out i) (hb : ¬ (0 ≤ hv (s.getD i 0) ∧ 0 ≤ hv (s.getD (i + 1) 0))) : unh s = none := by
  unfold UnI at *
  rw [hI, unh_step h, if_neg hb]; rfl
theorem unI_end {s out : List UInt8} {i : Nat} (h : s.length ≤ i + 1) (hI : UnI s out i) : unh s = some out := by
  unfold UnI at *
  rw [hI, unh_short (by simp; omega)]; simp
theorem p_IdxD (c : UInt8) : CP Tryd.prog 82 [.str dgs, .int .u8 (c.toNat : Int)] (.int .i64 (hv c)) := p_IdxB dgs c
theorem p_unhex (s : List UInt8) (hs : s.length ≤ 8000000) : CP Tryd.prog 68 [.str s] (.tup [.str (unhexA s), .bool (unhB s)]) := by
  have hm : maxLen = 9223372036854775807 := rfl
  refine ok_play_unhex _ _ (by simp) ?_
  simp only [c_play_unhex, ↓Ed, Eu, ↓reduceIte, reduceCtorEq, Nat.reduceAdd, Nat.reduceEqDiff, Nat.reduceLT, Nat.reduceLeDiff, Int.reduceToNat, Int.reduceEq, Int.reduceLT, Int.reduceLE, w64, List.length_append, List.length_map, sh4, an15, List.length_take, hexL_len, Nat.mul_one, List.map_append, cn0, cn1, cn2, cn3, cn16, Nat.reduceMul, eqA, tk1, tm2, List.append_assoc]
  repeat' ((first | refine NewB_intro0 (fun b => ?_) | (refine NewB_intro (fun b hb => ?_); simp only [ln_cons2, ln_nil, and_true] at hb) | (with_reducible apply And.intro; (focus (first | omega | (simp only [Fact, Bool.not_eq_true', Bool.not_eq_false', decide_eq_true_eq, decide_eq_false_iff_not] at *; omega)))) | ((first | refine gW_sp ?_ | refine condW_sp ?_ | refine pickW_sp ?_); (try refine Sp_n ?_); (first | refine Sp_t (by assumption) ?_ | refine Sp_f (by assumption) ?_ | refine Sp_split (fun h => ?_) (fun h => ?_)) <;> (first | have h' := Fact_lt h | have h' := Fact_nlt h | have h' := Fact_le h | have h' := Fact_nle h | skip) <;> (try (exfalso; omega))) | refine TreeW_intro (by rfl) ?_ | refine Two_intro ?_ ?_ | exact leK_lit (by simp [LeL, lk, *]) | (show (_ : Nat) ≤ _; omega)) <;> (try simp (disch := omega) only [*, ↓Ed, Eu, ↓reduceIte, reduceCtorEq, Nat.reduceAdd, Nat.reduceEqDiff, Nat.reduceLT, Nat.reduceLeDiff, Int.reduceToNat, Int.reduceEq, Int.reduceLT, Int.reduceLE, w64, List.length_append, List.length_map, sh4, an15, List.length_take, hexL_len, Nat.mul_one, List.map_append, cn0, cn1, cn2, cn3, cn16, Nat.reduceMul, eqA, tk1, tm2, List.append_assoc]))
  · simp only [Fact, Bool.not_eq_true', Bool.not_eq_false', decide_eq_true_eq, decide_eq_false_iff_not] at h; simp [unhexA, unhB, h]
  refine wpx_loop (fun x : List UInt8 × Nat => ⟨lk [(0, .str s), (4, .sl (some 5) 1 (bts x.1)), (5, .int .i64 (x.2 : Int))], lk []⟩) (fun x => x.2 ≤ s.length + 1 ∧ 2 * x.1.length = x.2 ∧ Fact (UnI s x.1 x.2)) (fun x => s.length + 2 - x.2) ([], 0) ⟨by simp, by simp, by simp [Fact, UnI]⟩ (Le_lit (by simp [LeL, lk])) ?_
  rintro ⟨out, i⟩ ⟨h1, h2, h3⟩
  simp only at h1 h2 h3
  simp (disch := omega) only [↓Ed, Eu, ↓reduceIte, reduceCtorEq, Nat.reduceAdd, Nat.reduceEqDiff, Nat.reduceLT, Nat.reduceLeDiff, Int.reduceToNat, Int.reduceEq, Int.reduceLT, Int.reduceLE, w64, List.length_append, List.length_map, sh4, an15, List.length_take, hexL_len, Nat.mul_one, List.map_append, cn0, cn1, cn2, cn3, cn16, Nat.reduceMul, eqA, tk1, tm2, List.append_assoc]
  repeat' ((first | refine CallW_intro (p_IdxD _) ?_ | refine BytesW_intro (out) (by simp [byteEl]) ?_ | refine NewB_intro0 (fun b => ?_) | (refine NewB_intro (fun b hb => ?_); simp only [ln_cons2, ln_nil, and_true] at hb) | (with_reducible apply And.intro; (focus (first | omega | (simp only [Fact, Bool.not_eq_true', Bool.not_eq_false', decide_eq_true_eq, decide_eq_false_iff_not] at *; omega)))) | ((first | refine gW_sp ?_ | refine condW_sp ?_ | refine pickW_sp ?_); (try refine Sp_n ?_); (first | refine Sp_t (by assumption) ?_ | refine Sp_f (by assumption) ?_ | refine Sp_split (fun h => ?_) (fun h => ?_)) <;> (first | have h' := Fact_lt h | have h' := Fact_nlt h | have h' := Fact_le h | have h' := Fact_nle h | skip) <;> (try (exfalso; omega))) | refine TreeW_intro (by rfl) ?_ | refine Two_intro ?_ ?_ | exact leK_lit (by simp [LeL, lk, *]) | (show (_ : Nat) ≤ _; omega)) <;> (try simp (disch := omega) only [*, ↓Ed, Eu, ↓reduceIte, reduceCtorEq, Nat.reduceAdd, Nat.reduceEqDiff, Nat.reduceLT, Nat.reduceLeDiff, Int.reduceToNat, Int.reduceEq, Int.reduceLT, Int.reduceLE, w64, List.length_append, List.length_map, sh4, an15, List.length_take, hexL_len, Nat.mul_one, List.map_append, cn0, cn1, cn2, cn3, cn16, Nat.reduceMul, eqA, tk1, tm2, List.append_assoc]))
  · simp only [Fact, Bool.not_eq_true', Bool.not_eq_false', decide_eq_true_eq, decide_eq_false_iff_not] at *
    have hn := unI_bad (by omega) h3 (fun g => by omega)
    simp [unhexA, unhB, hn, *]
  · simp only [Fact, Bool.not_eq_true', Bool.not_eq_false', decide_eq_true_eq, decide_eq_false_iff_not] at *
    have hn := unI_bad (by omega) h3 (fun g => by omega)
    simp [unhexA, unhB, hn, *]
  · have e1 := (hexd_hv' (c := s.getD i 0) (by omega)).2
    have e2 := (hexd_hv' (c := s.getD (i + 1) 0) (by omega)).2
    have hi := unI_step (by omega) h3 (by omega) (by omega)
    have hv1 : hv (s.getD i 0) = ((hv (s.getD i 0)).toNat : Int) := by omega
    have hv2 : hv (s.getD (i + 1) 0) = ((hv (s.getD (i + 1) 0)).toNat : Int) := by omega
    generalize hg1 : (hv (s.getD i 0)).toNat = a at hv1 hi
    generalize hg2 : (hv (s.getD (i + 1) 0)).toNat = b at hv2 hi
    rw [hv1, hv2]
    have e3 := or16' ⟨a, by omega⟩ ⟨b, by omega⟩
    simp only at e3
    rw [e3]
    refine Round_lit (out ++ [UInt8.ofNat (16 * a + b)], i + 2) ⟨Le_lit ?_, ⟨by simp only; omega, by simp; omega, hi⟩, by simp only; omega⟩
    have : (UInt8.ofNat (16 * a + b)).toNat = 16 * a + b := by rw [UInt8.toNat_ofNat']; omega
    simp only [LeL, lk, byteEl, this, List.map_append, List.map_cons, List.map_nil, bts]
    simp
  · simp only [Fact, Bool.not_eq_true', Bool.not_eq_false', decide_eq_true_eq, decide_eq_false_iff_not] at *
    have hn := unI_end (by omega) h3
    have h0 : 0 < s.length := by omega
    simp only [unhexA, unhB, hn]
    rw [if_neg (by assumption), if_neg (by assumption)]
    refine ⟨rfl, ?_⟩
    rw [decide_eq_true h0, Bool.true_and, decide_eq_decide]; omega
  · simp only [Fact, Bool.not_eq_true', Bool.not_eq_false', decide_eq_true_eq, decide_eq_false_iff_not] at *
    have hn := unI_end (by omega) h3
    simp [unhexA, unhB, hn, *]
    try omega
end Go.Proofs.YtfkkjhnbbimcaaaDoor

/- chapter 32: the program's lines -/
namespace Go.Proofs.YtfkkjhnbbimcaaaDoor
set_option linter.all false
open Go.RowKit
set_option maxRecDepth 100000
theorem gdS {l : List (List UInt8)} {i : Nat} (h : i < l.length) : (strs l).getD i [] = [.str (l.getD i [])] := by simp [strs, h]
theorem itoa_len17 {n : Int} (h : rngN n) : (Lib.itoa n).length ≤ 17 := by
  rw [itoa_dig h.1]
  exact dig_len 16 _ (by have := h.2; have := h.1; omega)
theorem hexA_len (d : List UInt8) : (hexA d).length ≤ 2 * d.length + 1 := by
  unfold hexA
  split
  · simp
  · rw [hexL_len]; omega
theorem body_len {x : Act} (h : mayQ x) : (bodyA x).length ≤ 2 * x.d.length + 100 := by
  obtain ⟨h1, h2, _, _, _, hc, hn, hm⟩ := h
  have e1 := itoa_len17 hc
  have e2 := itoa_len17 hn
  have e3 := itoa_len17 hm
  have e4 := hexA_len x.d
  have e5 : (sideW x.s).length = 1 := by unfold sideW; split <;> rfl
  have hk : x.k = 1 ∨ x.k = 2 ∨ x.k = 3 ∨ x.k = 4 ∨ x.k = 5 ∨ x.k = 6 := by omega
  have e6 : (wd x.k).length ≤ 6 := by rcases hk with e | e | e | e | e | e <;> rw [e] <;> decide
  unfold bodyA wordsA
  rcases hk with e | e | e | e | e | e <;> simp only [e, Lib.join_length, Lib.lens] <;> simp [e] at e6 ⊢ <;> rw [Lib.join_length] <;> simp [Lib.lens] <;> omega
theorem words_le (x : Act) : (wordsA x).length ≤ 140737488355328 := by
  unfold wordsA
  simp only [List.length_append, List.length_cons, List.cons_append]
  split <;> split <;> (try split) <;> (try split) <;> simp
set_option maxHeartbeats 80000000 in
theorem p_line (x : Act) (h : mayQ x) (hd : x.d.length ≤ 8000000) : CP Tryd.prog 37 [.agg x.cs] (.str (lineA x)) := by
  have hm : maxLen = 9223372036854775807 := rfl
  have hb := body_len h
  have hj := fun o => p_Join o 32 (wordsA x) (words_le x) (Nat.le_trans hb (by omega))
  have hb2 : (Lib.join (wordsA x) [32]).length ≤ 20000000 := Nat.le_trans hb (by omega)
  have hl : lineA x = Lib.join (wordsA x) [32] ++ [10] := rfl
  obtain ⟨h1, h2, h3, h4, h5, hc, hn, hmm⟩ := h
  obtain ⟨k, s, c, n, m, d⟩ := x
  simp only [rngN] at h1 h2 h3 h4 h5 hc hn hmm hd
  have hs : s = 0 ∨ s = 1 := by omega
  have hk : k = 1 ∨ k = 2 ∨ k = 3 ∨ k = 4 ∨ k = 5 ∨ k = 6 := by omega
  rw [hl]
  have h5' : (k = 5 ∨ k = 6) → s = 0 := fun hk => by rcases hk with rfl | rfl <;> simp [plainA] at h3 <;> omega
  clear h3 hl hb
  generalize hg : Lib.join (wordsA ⟨k, s, c, n, m, d⟩) [32] = body at hj hb2 ⊢
  refine ok_play_line _ _ (by simp) ?_
  rcases hk with rfl | rfl | rfl | rfl | rfl | rfl <;> rcases hs with rfl | rfl
  all_goals simp only [c_play_line, ↓Ed, Eu, ↓reduceIte, reduceCtorEq, Nat.reduceAdd, Nat.reduceEqDiff, Nat.reduceLT, Nat.reduceLeDiff, Int.reduceToNat, Int.reduceEq, Int.reduceLT, Int.reduceLE, w64, List.length_append, List.length_map, Nat.mul_one, List.map_append, Nat.reduceMul, List.append_assoc, gdS, List.cons_append, List.nil_append, or_self, or_false, false_or, or_true, true_or]
  all_goals repeat' ((first | refine CallO_pure (p_pword _) ?_ | refine CallO_pure (p_sideless _) ?_ | refine CallW_intro (p_Itoa _ (by omega)) ?_ | refine CallW_intro (p_hex _ (by omega)) ?_ | refine CallO_pure (p_Itoa _ (by omega)) ?_ | refine CallO_pure (p_hex _ (by omega)) ?_ | refine CallO_pure (hj none) ?_ | refine NewB_intro0 (fun b => ?_) | (refine NewB_intro (fun b hb => ?_); simp only [ln_cons2, ln_nil, and_true] at hb) | (with_reducible apply And.intro; (focus (first | omega | (simp only [Fact, Bool.not_eq_true', Bool.not_eq_false', decide_eq_true_eq, decide_eq_false_iff_not] at *; omega)))) | ((first | refine gW_sp ?_ | refine condW_sp ?_ | refine pickW_sp ?_); (try refine Sp_n ?_); (first | refine Sp_t (by assumption) ?_ | refine Sp_f (by assumption) ?_ | refine Sp_split (fun h => ?_) (fun h => ?_)) <;> (first | have h' := Fact_lt h | have h' := Fact_nlt h | have h' := Fact_le h | have h' := Fact_nle h | skip) <;> (try (exfalso; omega))) | refine TreeW_intro (by rfl) ?_ | refine Two_intro ?_ ?_ | exact leK_lit (by simp [LeL, lk, *]) | (show (_ : Nat) ≤ _; omega)) <;> (try simp (disch := omega) only [*, ↓Ed, Eu, ↓reduceIte, reduceCtorEq, Nat.reduceAdd, Nat.reduceEqDiff, Nat.reduceLT, Nat.reduceLeDiff, Int.reduceToNat, Int.reduceEq, Int.reduceLT, Int.reduceLE, w64, List.length_append, List.length_map, Nat.mul_one, List.map_append, Nat.reduceMul, List.append_assoc, gdS, List.cons_append, List.nil_append, or_self, or_false, false_or, or_true, true_or]))
end Go.Proofs.YtfkkjhnbbimcaaaDoor

/- chapter 32: the program's read -/
namespace Go.Proofs.YtfkkjhnbbimcaaaDoor
set_option linter.all false
open Go.RowKit
set_option maxRecDepth 100000
theorem tkm (k : Nat) : ((k : Int) - 1).toNat = k - 1 := by omega
theorem tk0 : (0 : Int).toNat = 0 := rfl
theorem tk2 : (2 : Int).toNat = 2 := rfl
theorem tk3 : (3 : Int).toNat = 3 := rfl
theorem tk4 : (4 : Int).toNat = 4 := rfl
def kindU (t : List UInt8) : Nat → Int
  | 0 => 0
  | k + 1 => if t = wd ((k : Int) + 1) then (k : Int) + 1 else kindU t k
theorem kindU6 (t : List UInt8) : kindU t 6 = kindA t := by
  by_cases h1 : t = wd 1
  · subst h1; decide
  by_cases h2 : t = wd 2
  · subst h2; decide
  by_cases h3 : t = wd 3
  · subst h3; decide
  by_cases h4 : t = wd 4
  · subst h4; decide
  by_cases h5 : t = wd 5
  · subst h5; decide
  by_cases h6 : t = wd 6
  · subst h6; decide
  simp only [kindU, kindA, if_neg h1, if_neg h2, if_neg h3, if_neg h4, if_neg h5, if_neg h6]
  have e : ∀ k : Nat, k < 6 → ¬ t = wd ((k : Int) + 1) := by
    intro k hk
    have : k = 0 ∨ k = 1 ∨ k = 2 ∨ k = 3 ∨ k = 4 ∨ k = 5 := by omega
    rcases this with rfl | rfl | rfl | rfl | rfl | rfl <;> assumption
  rw [if_neg (e 5 (by omega)), if_neg (e 4 (by omega)), if_neg (e 3 (by omega)), if_neg (e 2 (by omega)), if_neg (e 1 (by omega)), if_neg (e 0 (by omega))]
theorem p_number (s : List UInt8) (hs : s.length ≤ 16000000) : CP Tryd.prog 67 [.str s] (.int .i64 (numP s).1) := by
  refine ok_play_number _ _ (by simp) ?_
  simp only [c_play_number, ↓Ed, Eu, ↓reduceIte, reduceCtorEq, Nat.reduceAdd, Nat.reduceEqDiff, Nat.reduceLT, Nat.reduceLeDiff, Int.reduceToNat, Int.reduceEq, Int.reduceLT, Int.reduceLE, w64, List.length_append, List.length_map, Nat.mul_one, List.map_append, Nat.reduceMul, List.append_assoc, gdS, or_self, or_false, false_or, or_true, true_or, tkm, tk0, tk2, tk3, tk4, Int.toNat_one]
  repeat' ((first | refine CallO_pure (p_Number s hs) ?_ | refine NewB_intro0 (fun b => ?_) | (refine NewB_intro (fun b hb => ?_); simp only [ln_cons2, ln_nil, and_true] at hb) | (with_reducible apply And.intro; (focus (first | omega | (simp only [Fact, Bool.not_eq_true', Bool.not_eq_false', decide_eq_true_eq, decide_eq_false_iff_not] at *; omega)))) | ((first | refine gW_sp ?_ | refine condW_sp ?_ | refine pickW_sp ?_); (try refine Sp_n ?_); (first | refine Sp_t (by assumption) ?_ | refine Sp_f (by assumption) ?_ | refine Sp_split (fun h => ?_) (fun h => ?_)) <;> (first | have h' := Fact_lt h | have h' := Fact_nlt h | have h' := Fact_le h | have h' := Fact_nle h | skip) <;> (try (exfalso; omega))) | refine TreeW_intro (by rfl) ?_ | refine Two_intro ?_ ?_ | exact leK_lit (by simp [LeL, lk, *]) | (show (_ : Nat) ≤ _; omega)) <;> (try simp (disch := omega) only [*, ↓Ed, Eu, ↓reduceIte, reduceCtorEq, Nat.reduceAdd, Nat.reduceEqDiff, Nat.reduceLT, Nat.reduceLeDiff, Int.reduceToNat, Int.reduceEq, Int.reduceLT, Int.reduceLE, w64, List.length_append, List.length_map, Nat.mul_one, List.map_append, Nat.reduceMul, List.append_assoc, gdS, or_self, or_false, false_or, or_true, true_or, tkm, tk0, tk2, tk3, tk4, Int.toNat_one]))
set_option maxHeartbeats 8000000 in
theorem p_read (w : List (List UInt8)) (hw : 0 < w.length) (hl : w.length ≤ 10000000) (hbb : ∀ i, (w.getD i []).length ≤ 8000000) : CP Tryd.prog 41 [.sl none 1 (strs w)] (.agg (readA w).cs) := by
  have hn := fun i => p_number (w.getD i []) (Nat.le_trans (hbb i) (by omega))
  have hu := fun i => p_unhex (w.getD i []) (hbb i)
  refine ok_play_read _ _ (by simp) ?_
  by_cases h6 : w.length = 6
  · simp only [c_play_read, ↓Ed, Eu, ↓reduceIte, reduceCtorEq, Nat.reduceAdd, Nat.reduceEqDiff, Nat.reduceLT, Nat.reduceLeDiff, Int.reduceToNat, Int.reduceEq, Int.reduceLT, Int.reduceLE, w64, List.length_append, List.length_map, Nat.mul_one, List.map_append, Nat.reduceMul, List.append_assoc, gdS, or_self, or_false, false_or, or_true, true_or, tkm, tk0, tk2, tk3, tk4, Int.toNat_one]
    repeat' ((first | refine NewB_intro0 (fun b => ?_) | (refine NewB_intro (fun b hb => ?_); simp only [ln_cons2, ln_nil, and_true] at hb) | (with_reducible apply And.intro; (focus (first | omega | (simp only [Fact, Bool.not_eq_true', Bool.not_eq_false', decide_eq_true_eq, decide_eq_false_iff_not] at *; omega)))) | ((first | refine gW_sp ?_ | refine condW_sp ?_ | refine pickW_sp ?_); (try refine Sp_n ?_); (first | refine Sp_t (by assumption) ?_ | refine Sp_f (by assumption) ?_ | refine Sp_split (fun h => ?_) (fun h => ?_)) <;> (first | have h' := Fact_lt h | have h' := Fact_nlt h | have h' := Fact_le h | have h' := Fact_nle h | skip) <;> (try (exfalso; omega))) | refine TreeW_intro (by rfl) ?_ | refine Two_intro ?_ ?_ | exact leK_lit (by simp [LeL, lk, *]) | (show (_ : Nat) ≤ _; omega)) <;> (try simp (disch := omega) only [*, ↓Ed, Eu, ↓reduceIte, reduceCtorEq, Nat.reduceAdd, Nat.reduceEqDiff, Nat.reduceLT, Nat.reduceLeDiff, Int.reduceToNat, Int.reduceEq, Int.reduceLT, Int.reduceLE, w64, List.length_append, List.length_map, Nat.mul_one, List.map_append, Nat.reduceMul, List.append_assoc, gdS, or_self, or_false, false_or, or_true, true_or, tkm, tk0, tk2, tk3, tk4, Int.toNat_one]))
    rename_i d
    refine wpx_loop (fun k : Nat => ⟨lk [(0, .sl none 1 (strs w)), (2, .ptr d 0), (3, .ptr b 0), (4, .int .i64 ((k : Int) + 1))], lk [(d, [.int .i64 0, .int .i64 0, .int .i64 0, .int .i64 0, .int .i64 0, .str []]), (b, [.int .i64 (kindU (w.getD 0 []) k), .int .i64 0, .int .i64 0, .int .i64 0, .int .i64 0, .str []])]⟩) (fun k => k ≤ 6) (fun k => 6 - k) 0 (by omega) (Le_lit (by simp [LeL, lk, kindU, hb])) ?_
    intro k hk
    simp (disch := omega) only [↓Ed, Eu, ↓reduceIte, reduceCtorEq, Nat.reduceAdd, Nat.reduceEqDiff, Nat.reduceLT, Nat.reduceLeDiff, Int.reduceToNat, Int.reduceEq, Int.reduceLT, Int.reduceLE, w64, List.length_append, List.length_map, Nat.mul_one, List.map_append, Nat.reduceMul, List.append_assoc, gdS, or_self, or_false, false_or, or_true, true_or, tkm, tk0, tk2, tk3, tk4, Int.toNat_one]
    repeat' ((first | refine CallW_intro (p_pword _) ?_ | refine CallW_intro (hn _) ?_ | refine CallO_pure (hn _) ?_ | refine CallO_pure (hu _) ?_ | refine NewB_intro0 (fun b => ?_) | (refine NewB_intro (fun b hb => ?_); simp only [ln_cons2, ln_nil, and_true] at hb) | (with_reducible apply And.intro; (focus (first | omega | (simp only [Fact, Bool.not_eq_true', Bool.not_eq_false', decide_eq_true_eq, decide_eq_false_iff_not] at *; omega)))) | ((first | refine gW_sp ?_ | refine condW_sp ?_ | refine pickW_sp ?_); (try refine Sp_n ?_); (first | refine Sp_t (by assumption) ?_ | refine Sp_f (by assumption) ?_ | refine Sp_split (fun h => ?_) (fun h => ?_)) <;> (first | have h' := Fact_lt h | have h' := Fact_nlt h | have h' := Fact_le h | have h' := Fact_nle h | skip) <;> (try (exfalso; omega))) | refine TreeW_intro (by rfl) ?_ | refine Two_intro ?_ ?_ | exact leK_lit (by simp [LeL, lk, *]) | (show (_ : Nat) ≤ _; omega)) <;> (try simp (disch := omega) only [*, ↓Ed, Eu, ↓reduceIte, reduceCtorEq, Nat.reduceAdd, Nat.reduceEqDiff, Nat.reduceLT, Nat.reduceLeDiff, Int.reduceToNat, Int.reduceEq, Int.reduceLT, Int.reduceLE, w64, List.length_append, List.length_map, Nat.mul_one, List.map_append, Nat.reduceMul, List.append_assoc, gdS, or_self, or_false, false_or, or_true, true_or, tkm, tk0, tk2, tk3, tk4, Int.toNat_one]))
    all_goals clear hn hu hbb
    all_goals first
      | exact Round_lit (k + 1) ⟨Le_lit (by simp only [Fact, Bool.not_eq_true', Bool.not_eq_false', decide_eq_true_eq, decide_eq_false_iff_not] at h; generalize w.getD 0 [] = w0 at *; simp [LeL, lk, hb, kindU, h]), by omega, by omega⟩
      | (exfalso; simp only [Fact, Bool.not_eq_true', Bool.not_eq_false', decide_eq_true_eq, decide_eq_false_iff_not] at *; omega)
      | (obtain rfl : k = 6 := by omega
         simp only [Fact, Bool.not_eq_true', Bool.not_eq_false', decide_eq_true_eq, decide_eq_false_iff_not, kindU6] at *
         simp only [readA]
         (try simp only [h6])
         generalize w.getD 0 [] = w0 at *
         generalize w.getD 1 [] = w1 at *
         generalize w.getD 2 [] = w2 at *
         generalize w.getD 3 [] = w3 at *
         generalize w.getD 4 [] = w4 at *
         (try generalize w.getD (w.length - 1) [] = wl at *)
         (try generalize w.getD (6 - 1) [] = wl at *)
         generalize kindA w0 = kk at *
         have hgt : (1 : Nat) < 6 := by omega
         first
           | (simp_all; done)
           | (simp_all; omega))
  · simp only [c_play_read, ↓Ed, Eu, ↓reduceIte, reduceCtorEq, Nat.reduceAdd, Nat.reduceEqDiff, Nat.reduceLT, Nat.reduceLeDiff, Int.reduceToNat, Int.reduceEq, Int.reduceLT, Int.reduceLE, w64, List.length_append, List.length_map, Nat.mul_one, List.map_append, Nat.reduceMul, List.append_assoc, gdS, or_self, or_false, false_or, or_true, true_or, tkm, tk0, tk2, tk3, tk4, Int.toNat_one]
    repeat' ((first | refine NewB_intro0 (fun b => ?_) | (refine NewB_intro (fun b hb => ?_); simp only [ln_cons2, ln_nil, and_true] at hb) | (with_reducible apply And.intro; (focus (first | omega | (simp only [Fact, Bool.not_eq_true', Bool.not_eq_false', decide_eq_true_eq, decide_eq_false_iff_not] at *; omega)))) | ((first | refine gW_sp ?_ | refine condW_sp ?_ | refine pickW_sp ?_); (try refine Sp_n ?_); (first | refine Sp_t (by assumption) ?_ | refine Sp_f (by assumption) ?_ | refine Sp_split (fun h => ?_) (fun h => ?_)) <;> (first | have h' := Fact_lt h | have h' := Fact_nlt h | have h' := Fact_le h | have h' := Fact_nle h | skip) <;> (try (exfalso; omega))) | refine TreeW_intro (by rfl) ?_ | refine Two_intro ?_ ?_ | exact leK_lit (by simp [LeL, lk, *]) | (show (_ : Nat) ≤ _; omega)) <;> (try simp (disch := omega) only [*, ↓Ed, Eu, ↓reduceIte, reduceCtorEq, Nat.reduceAdd, Nat.reduceEqDiff, Nat.reduceLT, Nat.reduceLeDiff, Int.reduceToNat, Int.reduceEq, Int.reduceLT, Int.reduceLE, w64, List.length_append, List.length_map, Nat.mul_one, List.map_append, Nat.reduceMul, List.append_assoc, gdS, or_self, or_false, false_or, or_true, true_or, tkm, tk0, tk2, tk3, tk4, Int.toNat_one]))
    rename_i d
    refine wpx_loop (fun k : Nat => ⟨lk [(0, .sl none 1 (strs w)), (2, .ptr d 0), (3, .ptr b 0), (4, .int .i64 ((k : Int) + 1))], lk [(d, [.int .i64 0, .int .i64 0, .int .i64 0, .int .i64 0, .int .i64 0, .str []]), (b, [.int .i64 (kindU (w.getD 0 []) k), .int .i64 0, .int .i64 0, .int .i64 0, .int .i64 0, .str []])]⟩) (fun k => k ≤ 6) (fun k => 6 - k) 0 (by omega) (Le_lit (by simp [LeL, lk, kindU, hb])) ?_
    intro k hk
    simp (disch := omega) only [↓Ed, Eu, ↓reduceIte, reduceCtorEq, Nat.reduceAdd, Nat.reduceEqDiff, Nat.reduceLT, Nat.reduceLeDiff, Int.reduceToNat, Int.reduceEq, Int.reduceLT, Int.reduceLE, w64, List.length_append, List.length_map, Nat.mul_one, List.map_append, Nat.reduceMul, List.append_assoc, gdS, or_self, or_false, false_or, or_true, true_or, tkm, tk0, tk2, tk3, tk4, Int.toNat_one]
    repeat' ((first | refine CallW_intro (p_pword _) ?_ | refine CallW_intro (hn _) ?_ | refine CallO_pure (hn _) ?_ | refine CallO_pure (hu _) ?_ | refine NewB_intro0 (fun b => ?_) | (refine NewB_intro (fun b hb => ?_); simp only [ln_cons2, ln_nil, and_true] at hb) | (with_reducible apply And.intro; (focus (first | omega | (simp only [Fact, Bool.not_eq_true', Bool.not_eq_false', decide_eq_true_eq, decide_eq_false_iff_not] at *; omega)))) | ((first | refine gW_sp ?_ | refine condW_sp ?_ | refine pickW_sp ?_); (try refine Sp_n ?_); (first | refine Sp_t (by assumption) ?_ | refine Sp_f (by assumption) ?_ | refine Sp_split (fun h => ?_) (fun h => ?_)) <;> (first | have h' := Fact_lt h | have h' := Fact_nlt h | have h' := Fact_le h | have h' := Fact_nle h | skip) <;> (try (exfalso; omega))) | refine TreeW_intro (by rfl) ?_ | refine Two_intro ?_ ?_ | exact leK_lit (by simp [LeL, lk, *]) | (show (_ : Nat) ≤ _; omega)) <;> (try simp (disch := omega) only [*, ↓Ed, Eu, ↓reduceIte, reduceCtorEq, Nat.reduceAdd, Nat.reduceEqDiff, Nat.reduceLT, Nat.reduceLeDiff, Int.reduceToNat, Int.reduceEq, Int.reduceLT, Int.reduceLE, w64, List.length_append, List.length_map, Nat.mul_one, List.map_append, Nat.reduceMul, List.append_assoc, gdS, or_self, or_false, false_or, or_true, true_or, tkm, tk0, tk2, tk3, tk4, Int.toNat_one]))
    all_goals clear hn hu hbb
    all_goals first
      | exact Round_lit (k + 1) ⟨Le_lit (by simp only [Fact, Bool.not_eq_true', Bool.not_eq_false', decide_eq_true_eq, decide_eq_false_iff_not] at h; generalize w.getD 0 [] = w0 at *; simp [LeL, lk, hb, kindU, h]), by omega, by omega⟩
      | (exfalso; simp only [Fact, Bool.not_eq_true', Bool.not_eq_false', decide_eq_true_eq, decide_eq_false_iff_not] at *; omega)
      | (obtain rfl : k = 6 := by omega
         simp only [Fact, Bool.not_eq_true', Bool.not_eq_false', decide_eq_true_eq, decide_eq_false_iff_not, kindU6] at *
         simp only [readA]
         (try simp only [h6])
         generalize w.getD 0 [] = w0 at *
         generalize w.getD 1 [] = w1 at *
         generalize w.getD 2 [] = w2 at *
         generalize w.getD 3 [] = w3 at *
         generalize w.getD 4 [] = w4 at *
         (try generalize w.getD (w.length - 1) [] = wl at *)
         (try generalize w.getD (6 - 1) [] = wl at *)
         generalize kindA w0 = kk at *
         have hgt : (1 : Nat) < 6 := by omega
         first
           | (simp_all; done)
           | (simp_all; omega))
end Go.Proofs.YtfkkjhnbbimcaaaDoor

/- chapter 32: the program's Print -/
namespace Go.Proofs.YtfkkjhnbbimcaaaDoor
set_option linter.all false
open Go.RowKit
set_option maxRecDepth 100000
abbrev acts (l : List Act) : List (List AV) := l.map Act.cs
theorem gdA {l : List Act} {i : Nat} (h : i < l.length) : (acts l).getD i [] = (l.getD i default).cs := by simp [acts, h]
/-- the builder on its way: new, or written -/
abbrev bl (b : Nat) (k : Nat) (s : List UInt8) : List AV := [if k = 0 then .nilT 84 else .ptr b 0, .sl (some 5) 1 (bts s)]
theorem fm_step {l : List Act} {k : Nat} (h : k < l.length) : (l.take (k + 1)).flatMap lineA = (l.take k).flatMap lineA ++ lineA (l.getD k default) := by
  have e : l.take (k + 1) = l.take k ++ [l.getD k default] := by rw [List.take_succ]; simp [h]
  rw [e]; simp
theorem fm_len {l : List Act} (hd : ∀ x ∈ l, x.d.length ≤ 10000) : ∀ k, k ≤ l.length → (∀ j, j < k → mayA (l.getD j default) = true) → ((l.take k).flatMap lineA).length ≤ k * 20101
  | 0, _, _ => by simp
  | k + 1, hk, h => by
    rw [fm_step (by omega), List.length_append]
    have := fm_len hd k (by omega) (fun j hj => h j (by omega))
    have hq : mayQ (l.getD k default) := of_decide_eq_true (h k (by omega))
    have h2 := body_len hq
    have h3 := hd (l.getD k default) (by rw [List.getD, List.getElem?_eq_getElem (by omega)]; exact List.getElem_mem _)
    simp only [lineA, List.length_append, List.length_cons, List.length_nil]
    omega
theorem all_may {l : List Act} : l.all mayA = true ↔ ∀ j, j < l.length → mayA (l.getD j default) = true := by
  rw [List.all_eq_true]
  constructor
  · intro h j hj
    rw [List.getD, List.getElem?_eq_getElem hj]; exact h _ (List.getElem_mem hj)
  · intro h x hx
    obtain ⟨j, hj, rfl⟩ := List.getElem_of_mem hx
    have := h j hj
    rwa [List.getD, List.getElem?_eq_getElem hj] at this
theorem print_bad {l : List Act} {k : Nat} (hl : ¬ 400 < l.length) (hk : k < l.length) (h : mayA (l.getD k default) = false) : printA l = ([], 1) := by
  unfold printA
  rw [if_neg hl, if_neg]
  intro g
  rw [all_may.1 g k hk] at h; cases h
theorem print_ok {l : List Act} (hl : ¬ 400 < l.length) (h : ∀ j, j < l.length → mayA (l.getD j default) = true) : printA l = (l.flatMap lineA, 0) := by
  unfold printA
  rw [if_neg hl, if_pos (all_may.2 h)]
theorem may_step {l : List Act} {k : Nat} (h : ∀ j, j < k → mayA (l.getD j default) = true) (g : mayA (l.getD k default) = true) : ∀ j, j < k + 1 → mayA (l.getD j default) = true := fun j hj => by
  by_cases e : j = k
  · subst e; exact g
  · exact h j (by omega)
set_option maxHeartbeats 4000000 in
theorem p_Print (own : Option Nat) (l : List Act) (hl : l.length ≤ 1000000) (hd : ∀ x ∈ l, x.d.length ≤ 10000) : CP Tryd.prog 15 [.sl own 6 (acts l)] (.tup [.str (printA l).1, .int .i64 (printA l).2]) := by
  refine ok_play_Print _ _ (by simp) ?_
  simp only [c_play_Print, ↓Ed, Eu, ↓reduceIte, reduceCtorEq, Nat.reduceAdd, Nat.reduceEqDiff, Nat.reduceLT, Nat.reduceLeDiff, Int.reduceToNat, Int.reduceEq, Int.reduceLT, Int.reduceLE, w64, List.length_append, List.length_map, Nat.mul_one, gdA, Act.cs, bl]
  repeat' ((first | refine NewB_intro0 (fun b => ?_) | (refine NewB_intro (fun b hb => ?_); simp only [ln_cons2, ln_nil, and_true] at hb) | (with_reducible apply And.intro; (focus (first | omega | (simp only [Fact, Bool.not_eq_true', Bool.not_eq_false', decide_eq_true_eq, decide_eq_false_iff_not] at *; omega)))) | ((first | refine gW_sp ?_ | refine condW_sp ?_ | refine pickW_sp ?_); (try refine Sp_n ?_); (first | refine Sp_t (by assumption) ?_ | refine Sp_f (by assumption) ?_ | refine Sp_split (fun h => ?_) (fun h => ?_)) <;> (first | have h' := Fact_lt h | have h' := Fact_nlt h | have h' := Fact_le h | have h' := Fact_nle h | skip) <;> (try (exfalso; omega))) | refine TreeW_intro (by rfl) ?_ | refine Two_intro ?_ ?_ | exact leK_lit (by simp [LeL, lk, *]) | (show (_ : Nat) ≤ _; omega)) <;> (try simp (disch := omega) only [*, ↓Ed, Eu, ↓reduceIte, reduceCtorEq, Nat.reduceAdd, Nat.reduceEqDiff, Nat.reduceLT, Nat.reduceLeDiff, Int.reduceToNat, Int.reduceEq, Int.reduceLT, Int.reduceLE, w64, List.length_append, List.length_map, Nat.mul_one, gdA, Act.cs, bl]))
  · simp only [Fact, Bool.not_eq_true', Bool.not_eq_false', decide_eq_true_eq, decide_eq_false_iff_not] at h; unfold printA; rw [if_pos (by omega)]; exact ⟨rfl, rfl⟩
  have h4 : ¬ 400 < l.length := by simp only [Fact, Bool.not_eq_true', Bool.not_eq_false', decide_eq_true_eq, decide_eq_false_iff_not] at h; omega
  rename Nat => d
  refine wpx_loop (fun k : Nat => ⟨lk [(4, .ptr d 0), (10, .sl none 6 (acts l)), (11, .int .i64 l.length), (12, .int .i64 (k : Int))], lk [(d, bl d k ((l.take k).flatMap lineA))]⟩) (fun k => k ≤ l.length ∧ Fact (∀ j, j < k → mayA (l.getD j default) = true)) (fun k => l.length - k) 0 ⟨by omega, fun j hj => by omega⟩ (Le_lit (by simp [LeL, lk, bl, bts])) ?_
  rintro k ⟨h1, h2⟩
  have hlen := fm_len hd k h1 h2
  by_cases hk : k < l.length
  · have hdx := hd (l.getD k default) (by rw [List.getD, List.getElem?_eq_getElem hk]; exact List.getElem_mem _)
    cases hmay : mayA (l.getD k default) with
    | false =>
      rw [print_bad h4 hk hmay]
      have hp := p_aMay (l.getD k default)
      rw [hmay] at hp
      simp (disch := omega) only [↓Ed, Eu, ↓reduceIte, reduceCtorEq, Nat.reduceAdd, Nat.reduceEqDiff, Nat.reduceLT, Nat.reduceLeDiff, Int.reduceToNat, Int.reduceEq, Int.reduceLT, Int.reduceLE, w64, List.length_append, List.length_map, Nat.mul_one, gdA, Act.cs, bl]
      repeat' ((first | refine CallO_pure (hp) ?_ | refine NewB_intro0 (fun b => ?_) | (refine NewB_intro (fun b hb => ?_); simp only [ln_cons2, ln_nil, and_true] at hb) | (with_reducible apply And.intro; (focus (first | omega | (simp only [Fact, Bool.not_eq_true', Bool.not_eq_false', decide_eq_true_eq, decide_eq_false_iff_not] at *; omega)))) | ((first | refine gW_sp ?_ | refine condW_sp ?_ | refine pickW_sp ?_); (try refine Sp_n ?_); (first | refine Sp_t (by assumption) ?_ | refine Sp_f (by assumption) ?_ | refine Sp_split (fun h => ?_) (fun h => ?_)) <;> (first | have h' := Fact_lt h | have h' := Fact_nlt h | have h' := Fact_le h | have h' := Fact_nle h | skip) <;> (try (exfalso; omega))) | refine TreeW_intro (by rfl) ?_ | refine Two_intro ?_ ?_ | exact leK_lit (by simp [LeL, lk, *]) | (show (_ : Nat) ≤ _; omega)) <;> (try simp (disch := omega) only [*, ↓Ed, Eu, ↓reduceIte, reduceCtorEq, Nat.reduceAdd, Nat.reduceEqDiff, Nat.reduceLT, Nat.reduceLeDiff, Int.reduceToNat, Int.reduceEq, Int.reduceLT, Int.reduceLE, w64, List.length_append, List.length_map, Nat.mul_one, gdA, Act.cs, bl]))
    | true =>
      have hq : mayQ (l.getD k default) := of_decide_eq_true hmay
      have hp := p_aMay (l.getD k default)
      rw [hmay] at hp
      have hb2 := body_len hq
      have hln := p_line (l.getD k default) hq (by omega)
      have hl2 : (lineA (l.getD k default)).length ≤ 30000 := by simp only [lineA, List.length_append, List.length_cons, List.length_nil]; omega
      have hst := fm_step hk
      rcases Nat.eq_zero_or_pos k with h0 | h0
      · subst h0
        have hw := fun b => t_Write0 b (lineA (l.getD 0 default)) (by omega)
        simp (disch := omega) only [↓Ed, Eu, ↓reduceIte, reduceCtorEq, Nat.reduceAdd, Nat.reduceEqDiff, Nat.reduceLT, Nat.reduceLeDiff, Int.reduceToNat, Int.reduceEq, Int.reduceLT, Int.reduceLE, w64, List.length_append, List.length_map, Nat.mul_one, gdA, Act.cs, bl]
        repeat' ((first | refine CallO_pure (hp) ?_ | refine CallO_pure (hln) ?_ | (refine' CallO_det (hw d) (lk_sub1 ?_) ?_; rotate_right 2; (focus ((repeat (first | exact lk_hd _ _ _ | (refine lk_tl ?_ ?_; (focus (first | assumption | (simp only [*, not_false_eq_true]; done)))))); done))) | refine NewB_intro0 (fun b => ?_) | (refine NewB_intro (fun b hb => ?_); simp only [ln_cons2, ln_nil, and_true] at hb) | (with_reducible apply And.intro; (focus (first | omega | (simp only [Fact, Bool.not_eq_true', Bool.not_eq_false', decide_eq_true_eq, decide_eq_false_iff_not] at *; omega)))) | ((first | refine gW_sp ?_ | refine condW_sp ?_ | refine pickW_sp ?_); (try refine Sp_n ?_); (first | refine Sp_t (by assumption) ?_ | refine Sp_f (by assumption) ?_ | refine Sp_split (fun h => ?_) (fun h => ?_)) <;> (first | have h' := Fact_lt h | have h' := Fact_nlt h | have h' := Fact_le h | have h' := Fact_nle h | skip) <;> (try (exfalso; omega))) | refine TreeW_intro (by rfl) ?_ | refine Two_intro ?_ ?_ | exact leK_lit (by simp [LeL, lk, *]) | (show (_ : Nat) ≤ _; omega)) <;> (try simp (disch := omega) only [*, ↓Ed, Eu, ↓reduceIte, reduceCtorEq, Nat.reduceAdd, Nat.reduceEqDiff, Nat.reduceLT, Nat.reduceLeDiff, Int.reduceToNat, Int.reduceEq, Int.reduceLT, Int.reduceLE, w64, List.length_append, List.length_map, Nat.mul_one, gdA, Act.cs, bl]))
        exact Round_lit (0 + 1) ⟨Le_lit (by simp [LeL, lk, hb, hst, bl, bts]), ⟨by omega, may_step h2 hmay⟩, by omega⟩
      · have hw := fun b => t_Write b ((l.take k).flatMap lineA) (lineA (l.getD k default)) (by omega)
        have hk0 : ¬ k = 0 := by omega
        simp (disch := omega) only [hk0, ↓Ed, Eu, ↓reduceIte, reduceCtorEq, Nat.reduceAdd, Nat.reduceEqDiff, Nat.reduceLT, Nat.reduceLeDiff, Int.reduceToNat, Int.reduceEq, Int.reduceLT, Int.reduceLE, w64, List.length_append, List.length_map, Nat.mul_one, gdA, Act.cs, bl]
        repeat' ((first | refine CallO_pure (hp) ?_ | refine CallO_pure (hln) ?_ | (refine' CallO_det (hw d) (lk_sub1 ?_) ?_; rotate_right 2; (focus ((repeat (first | exact lk_hd _ _ _ | (refine lk_tl ?_ ?_; (focus (first | assumption | (simp only [*, not_false_eq_true]; done)))))); done))) | refine NewB_intro0 (fun b => ?_) | (refine NewB_intro (fun b hb => ?_); simp only [ln_cons2, ln_nil, and_true] at hb) | (with_reducible apply And.intro; (focus (first | omega | (simp only [Fact, Bool.not_eq_true', Bool.not_eq_false', decide_eq_true_eq, decide_eq_false_iff_not] at *; omega)))) | ((first | refine gW_sp ?_ | refine condW_sp ?_ | refine pickW_sp ?_); (try refine Sp_n ?_); (first | refine Sp_t (by assumption) ?_ | refine Sp_f (by assumption) ?_ | refine Sp_split (fun h => ?_) (fun h => ?_)) <;> (first | have h' := Fact_lt h | have h' := Fact_nlt h | have h' := Fact_le h | have h' := Fact_nle h | skip) <;> (try (exfalso; omega))) | refine TreeW_intro (by rfl) ?_ | refine Two_intro ?_ ?_ | exact leK_lit (by simp [LeL, lk, *]) | (show (_ : Nat) ≤ _; omega)) <;> (try simp (disch := omega) only [*, ↓Ed, Eu, ↓reduceIte, reduceCtorEq, Nat.reduceAdd, Nat.reduceEqDiff, Nat.reduceLT, Nat.reduceLeDiff, Int.reduceToNat, Int.reduceEq, Int.reduceLT, Int.reduceLE, w64, List.length_append, List.length_map, Nat.mul_one, gdA, Act.cs, bl]))
        exact Round_lit (k + 1) ⟨Le_lit (by simp [LeL, lk, hb, hst, bl, bts]), ⟨by omega, may_step h2 hmay⟩, by omega⟩
  · obtain rfl : k = l.length := by omega
    rw [print_ok h4 h2]
    simp (disch := omega) only [↓Ed, Eu, ↓reduceIte, reduceCtorEq, Nat.reduceAdd, Nat.reduceEqDiff, Nat.reduceLT, Nat.reduceLeDiff, Int.reduceToNat, Int.reduceEq, Int.reduceLT, Int.reduceLE, w64, List.length_append, List.length_map, Nat.mul_one, gdA, Act.cs, bl]
    repeat' ((first | (refine' CallO_det (t_String d _ _ (.inr trivial)) (lk_sub1 ?_) ?_; rotate_right 2; (focus ((repeat (first | exact lk_hd _ _ _ | (refine lk_tl ?_ ?_; (focus (first | assumption | (simp only [*, not_false_eq_true]; done)))))); done))) | refine NewB_intro0 (fun b => ?_) | (refine NewB_intro (fun b hb => ?_); simp only [ln_cons2, ln_nil, and_true] at hb) | (with_reducible apply And.intro; (focus (first | omega | (simp only [Fact, Bool.not_eq_true', Bool.not_eq_false', decide_eq_true_eq, decide_eq_false_iff_not] at *; omega)))) | ((first | refine gW_sp ?_ | refine condW_sp ?_ | refine pickW_sp ?_); (try refine Sp_n ?_); (first | refine Sp_t (by assumption) ?_ | refine Sp_f (by assumption) ?_ | refine Sp_split (fun h => ?_) (fun h => ?_)) <;> (first | have h' := Fact_lt h | have h' := Fact_nlt h | have h' := Fact_le h | have h' := Fact_nle h | skip) <;> (try (exfalso; omega))) | refine TreeW_intro (by rfl) ?_ | refine Two_intro ?_ ?_ | exact leK_lit (by simp [LeL, lk, *]) | (show (_ : Nat) ≤ _; omega)) <;> (try simp (disch := omega) only [*, ↓Ed, Eu, ↓reduceIte, reduceCtorEq, Nat.reduceAdd, Nat.reduceEqDiff, Nat.reduceLT, Nat.reduceLeDiff, Int.reduceToNat, Int.reduceEq, Int.reduceLT, Int.reduceLE, w64, List.length_append, List.length_map, Nat.mul_one, gdA, Act.cs, bl]))
    rw [List.take_length]
end Go.Proofs.YtfkkjhnbbimcaaaDoor

/- chapter 32: the program's Parse -/
namespace Go.Proofs.YtfkkjhnbbimcaaaDoor
set_option linter.all false
open Go.RowKit
set_option maxRecDepth 100000
theorem unh_len : ∀ {s o : List UInt8}, unh s = some o → o.length ≤ s.length
  | [], o, h => by simp [unh] at h; subst h; simp
  | [_], o, h => by simp [unh] at h; subst h; simp
  | a :: b :: r, o, h => by
    rw [unh] at h
    split at h
    · cases h2 : unh r with
      | none => rw [h2] at h; cases h
      | some q =>
        rw [h2] at h
        simp only [Option.map_some, Option.some.injEq] at h
        subst h
        have := unh_len h2
        simp only [List.length_cons]; omega
    · cases h
theorem unhexA_len (s : List UInt8) : (unhexA s).length ≤ s.length := by
  unfold unhexA
  split
  · simp
  · cases h : unh s with
    | none => simp
    | some o => simpa using unh_len h
theorem readA_len {w : List (List UInt8)} {n : Nat} (h : ∀ i, (w.getD i []).length ≤ n) : (readA w).d.length ≤ n := by
  simp only [readA]
  split
  · exact Nat.le_trans (unhexA_len _) (h _)
  · simp
theorem spx_pos (z : UInt8) (s : List UInt8) : 0 < (spx z s).length := List.length_pos_iff.2 (spx_ne z s)
theorem spx_count (z : UInt8) : ∀ s : List UInt8, (spx z s).length ≤ s.length + 1
  | [] => by simp [spx]
  | c :: t => by
    have := spx_count z t
    rw [spx]
    split
    · simp; omega
    · split
      · simp
      · rename_i x xs e
        rw [e] at this
        simp at this ⊢; omega
theorem line_bad {t s r : List UInt8} (hs : s = t ++ 10 :: r) (hn : 10 ∉ t) (h : mayA (readA (spx 32 t)) = true) (hp : Lib.hasPrefix s (lineA (readA (spx 32 t))) = false) : lnA t = none := by
  unfold lnA
  rw [if_neg]
  rintro ⟨_, g⟩
  rw [(pre_line (of_decide_eq_true h) hs hn).2 g] at hp
  cases hp
theorem line_bad2 {t : List UInt8} (h : mayA (readA (spx 32 t)) = false) : lnA t = none := by
  unfold lnA
  rw [if_neg]
  rintro ⟨g, _⟩
  rw [h] at g; cases g
theorem line_ok {t s r : List UInt8} (hs : s = t ++ 10 :: r) (hn : 10 ∉ t) (h : mayA (readA (spx 32 t)) = true) (hp : Lib.hasPrefix s (lineA (readA (spx 32 t))) = true) : lnA t = some (readA (spx 32 t)) := by
  unfold lnA
  rw [if_pos ⟨h, (pre_line (of_decide_eq_true h) hs hn).1 hp⟩]
set_option maxHeartbeats 8000000 in
theorem p_aParse (s : List UInt8) (hs : s.length ≤ 8000000) : CP Tryd.prog 17 [.str s] (.tup [.sl none 6 (acts (parseA s).1), .int .i64 (parseA s).2.1, .int .i64 (parseA s).2.2]) := by
  have hm : maxLen = 9223372036854775807 := rfl
  refine ok_play_Parse _ _ (by simp) ?_
  simp only [c_play_Parse, ↓Ed, Eu, ↓reduceIte, reduceCtorEq, Nat.reduceAdd, Nat.reduceEqDiff, Nat.reduceLT, Nat.reduceLeDiff, Int.reduceToNat, Int.reduceEq, Int.reduceLT, Int.reduceLE, w64, List.length_append, List.length_map, Nat.mul_one, Act.cs]
  repeat' ((first | refine NewB_intro0 (fun b => ?_) | (refine NewB_intro (fun b hb => ?_); simp only [ln_cons2, ln_nil, and_true] at hb) | (with_reducible apply And.intro; (focus (first | omega | (simp only [Fact, Bool.not_eq_true', Bool.not_eq_false', decide_eq_true_eq, decide_eq_false_iff_not] at *; omega)))) | ((first | refine gW_sp ?_ | refine condW_sp ?_ | refine pickW_sp ?_); (try refine Sp_n ?_); (first | refine Sp_t (by assumption) ?_ | refine Sp_f (by assumption) ?_ | refine Sp_split (fun h => ?_) (fun h => ?_)) <;> (first | have h' := Fact_lt h | have h' := Fact_nlt h | have h' := Fact_le h | have h' := Fact_nle h | skip) <;> (try (exfalso; omega))) | refine TreeW_intro (by rfl) ?_ | refine Two_intro ?_ ?_ | exact leK_lit (by simp [LeL, lk, *]) | (show (_ : Nat) ≤ _; omega)) <;> (try simp (disch := omega) only [*, ↓Ed, Eu, ↓reduceIte, reduceCtorEq, Nat.reduceAdd, Nat.reduceEqDiff, Nat.reduceLT, Nat.reduceLeDiff, Int.reduceToNat, Int.reduceEq, Int.reduceLT, Int.reduceLE, w64, List.length_append, List.length_map, Nat.mul_one, Act.cs]))
  refine wpx_loop (fun x : List Act × List UInt8 => ⟨lk [(0, .str x.2), (5, .sl (some 44) 6 (acts x.1)), (6, .int .i64 ((x.1.length : Int) + 1))], lk []⟩) (fun x => x.2.length ≤ s.length ∧ x.1.length ≤ 400 ∧ Fact (parseA s = restA x.1 x.2)) (fun x => x.2.length) ([], s) ⟨by simp, by simp, parse_rest s⟩ (Le_lit (by simp [LeL, lk])) ?_
  rintro ⟨out, q⟩ ⟨h1, h2, h3⟩
  simp only at h1 h2 h3
  have h3' : parseA s = restA out q := h3
  rw [h3']
  clear h3 h3'
  by_cases hq : q = []
  · subst hq
    rw [rest_nil]
    simp (disch := omega) only [↓Ed, Eu, ↓reduceIte, reduceCtorEq, Nat.reduceAdd, Nat.reduceEqDiff, Nat.reduceLT, Nat.reduceLeDiff, Int.reduceToNat, Int.reduceEq, Int.reduceLT, Int.reduceLE, w64, List.length_append, List.length_map, Nat.mul_one, Act.cs]
    repeat' ((first | refine NewB_intro0 (fun b => ?_) | (refine NewB_intro (fun b hb => ?_); simp only [ln_cons2, ln_nil, and_true] at hb) | (with_reducible apply And.intro; (focus (first | omega | (simp only [Fact, Bool.not_eq_true', Bool.not_eq_false', decide_eq_true_eq, decide_eq_false_iff_not] at *; omega)))) | ((first | refine gW_sp ?_ | refine condW_sp ?_ | refine pickW_sp ?_); (try refine Sp_n ?_); (first | refine Sp_t (by assumption) ?_ | refine Sp_f (by assumption) ?_ | refine Sp_split (fun h => ?_) (fun h => ?_)) <;> (first | have h' := Fact_lt h | have h' := Fact_nlt h | have h' := Fact_le h | have h' := Fact_nle h | skip) <;> (try (exfalso; omega))) | refine TreeW_intro (by rfl) ?_ | refine Two_intro ?_ ?_ | exact leK_lit (by simp [LeL, lk, *]) | (show (_ : Nat) ≤ _; omega)) <;> (try simp (disch := omega) only [*, ↓Ed, Eu, ↓reduceIte, reduceCtorEq, Nat.reduceAdd, Nat.reduceEqDiff, Nat.reduceLT, Nat.reduceLeDiff, Int.reduceToNat, Int.reduceEq, Int.reduceLT, Int.reduceLE, w64, List.length_append, List.length_map, Nat.mul_one, Act.cs]))
  have hcut := p_Cut8 q [10] (by omega)
  by_cases hf : out.length = 400
  · rw [rest_full hq hf]
    simp (disch := omega) only [↓Ed, Eu, ↓reduceIte, reduceCtorEq, Nat.reduceAdd, Nat.reduceEqDiff, Nat.reduceLT, Nat.reduceLeDiff, Int.reduceToNat, Int.reduceEq, Int.reduceLT, Int.reduceLE, w64, List.length_append, List.length_map, Nat.mul_one, Act.cs]
    repeat' ((first | refine CallO_pure (hcut) ?_ | refine NewB_intro0 (fun b => ?_) | (refine NewB_intro (fun b hb => ?_); simp only [ln_cons2, ln_nil, and_true] at hb) | (with_reducible apply And.intro; (focus (first | omega | (simp only [Fact, Bool.not_eq_true', Bool.not_eq_false', decide_eq_true_eq, decide_eq_false_iff_not] at *; omega)))) | ((first | refine gW_sp ?_ | refine condW_sp ?_ | refine pickW_sp ?_); (try refine Sp_n ?_); (first | refine Sp_t (by assumption) ?_ | refine Sp_f (by assumption) ?_ | refine Sp_split (fun h => ?_) (fun h => ?_)) <;> (first | have h' := Fact_lt h | have h' := Fact_nlt h | have h' := Fact_le h | have h' := Fact_nle h | skip) <;> (try (exfalso; omega))) | refine TreeW_intro (by rfl) ?_ | refine Two_intro ?_ ?_ | exact leK_lit (by simp [LeL, lk, *]) | (show (_ : Nat) ≤ _; omega)) <;> (try simp (disch := omega) only [*, ↓Ed, Eu, ↓reduceIte, reduceCtorEq, Nat.reduceAdd, Nat.reduceEqDiff, Nat.reduceLT, Nat.reduceLeDiff, Int.reduceToNat, Int.reduceEq, Int.reduceLT, Int.reduceLE, w64, List.length_append, List.length_map, Nat.mul_one, Act.cs]))
    all_goals first
      | omega
      | (exfalso; simp only [Fact, Bool.not_eq_true', Bool.not_eq_false', decide_eq_true_eq, decide_eq_false_iff_not] at *; omega)
      | (exfalso; simp only [Fact, Bool.not_eq_true', Bool.not_eq_false', decide_eq_true_eq, decide_eq_false_iff_not] at *; contradiction)
  cases hc : cutL q with
  | none =>
    rw [rest_bad hq hf (fun t r e => by rw [hc] at e; cases e)]
    have hn := cutL_none.1 hc
    rw [cut_of_no hn] at hcut
    have hsp := p_SplitZ 32 q (by omega)
    have hrd := p_read (spx 32 q) (spx_pos _ _) (Nat.le_trans (spx_count _ _) (by omega)) (fun i => Nat.le_trans (spx_getlen _ _ _) (by omega))
    have hmy := p_aMay (readA (spx 32 q))
    cases hmay : mayA (readA (spx 32 q)) with
    | false =>
      rw [hmay] at hmy
      simp (disch := omega) only [↓Ed, Eu, ↓reduceIte, reduceCtorEq, Nat.reduceAdd, Nat.reduceEqDiff, Nat.reduceLT, Nat.reduceLeDiff, Int.reduceToNat, Int.reduceEq, Int.reduceLT, Int.reduceLE, w64, List.length_append, List.length_map, Nat.mul_one, Act.cs]
      repeat' ((first | refine CallO_pure (hcut) ?_ | refine CallO_pure (hsp) ?_ | refine CallO_pure (hrd) ?_ | refine CallO_pure (hmy) ?_ | refine NewB_intro0 (fun b => ?_) | (refine NewB_intro (fun b hb => ?_); simp only [ln_cons2, ln_nil, and_true] at hb) | (with_reducible apply And.intro; (focus (first | omega | (simp only [Fact, Bool.not_eq_true', Bool.not_eq_false', decide_eq_true_eq, decide_eq_false_iff_not] at *; omega)))) | ((first | refine gW_sp ?_ | refine condW_sp ?_ | refine pickW_sp ?_); (try refine Sp_n ?_); (first | refine Sp_t (by assumption) ?_ | refine Sp_f (by assumption) ?_ | refine Sp_split (fun h => ?_) (fun h => ?_)) <;> (first | have h' := Fact_lt h | have h' := Fact_nlt h | have h' := Fact_le h | have h' := Fact_nle h | skip) <;> (try (exfalso; omega))) | refine TreeW_intro (by rfl) ?_ | refine Two_intro ?_ ?_ | exact leK_lit (by simp [LeL, lk, *]) | (show (_ : Nat) ≤ _; omega)) <;> (try simp (disch := omega) only [*, ↓Ed, Eu, ↓reduceIte, reduceCtorEq, Nat.reduceAdd, Nat.reduceEqDiff, Nat.reduceLT, Nat.reduceLeDiff, Int.reduceToNat, Int.reduceEq, Int.reduceLT, Int.reduceLE, w64, List.length_append, List.length_map, Nat.mul_one, Act.cs]))
      all_goals first
        | omega
        | (exfalso; simp only [Fact, Bool.not_eq_true', Bool.not_eq_false', decide_eq_true_eq, decide_eq_false_iff_not] at *; omega)
        | (exfalso; simp only [Fact, Bool.not_eq_true', Bool.not_eq_false', decide_eq_true_eq, decide_eq_false_iff_not] at *; contradiction)
    | true =>
      rw [hmay] at hmy
      have hln := p_line (readA (spx 32 q)) (of_decide_eq_true hmay) (readA_len fun i => Nat.le_trans (spx_getlen _ _ _) (by omega))
      have hpre := p_HasPrefix q (lineA (readA (spx 32 q)))
      rw [pre_none hn] at hpre
      simp (disch := omega) only [↓Ed, Eu, ↓reduceIte, reduceCtorEq, Nat.reduceAdd, Nat.reduceEqDiff, Nat.reduceLT, Nat.reduceLeDiff, Int.reduceToNat, Int.reduceEq, Int.reduceLT, Int.reduceLE, w64, List.length_append, List.length_map, Nat.mul_one, Act.cs]
      repeat' ((first | refine CallO_pure (hcut) ?_ | refine CallO_pure (hsp) ?_ | refine CallO_pure (hrd) ?_ | refine CallO_pure (hmy) ?_ | refine CallO_pure (hln) ?_ | refine CallO_pure (hpre) ?_ | refine NewB_intro0 (fun b => ?_) | (refine NewB_intro (fun b hb => ?_); simp only [ln_cons2, ln_nil, and_true] at hb) | (with_reducible apply And.intro; (focus (first | omega | (simp only [Fact, Bool.not_eq_true', Bool.not_eq_false', decide_eq_true_eq, decide_eq_false_iff_not] at *; omega)))) | ((first | refine gW_sp ?_ | refine condW_sp ?_ | refine pickW_sp ?_); (try refine Sp_n ?_); (first | refine Sp_t (by assumption) ?_ | refine Sp_f (by assumption) ?_ | refine Sp_split (fun h => ?_) (fun h => ?_)) <;> (first | have h' := Fact_lt h | have h' := Fact_nlt h | have h' := Fact_le h | have h' := Fact_nle h | skip) <;> (try (exfalso; omega))) | refine TreeW_intro (by rfl) ?_ | refine Two_intro ?_ ?_ | exact leK_lit (by simp [LeL, lk, *]) | (show (_ : Nat) ≤ _; omega)) <;> (try simp (disch := omega) only [*, ↓Ed, Eu, ↓reduceIte, reduceCtorEq, Nat.reduceAdd, Nat.reduceEqDiff, Nat.reduceLT, Nat.reduceLeDiff, Int.reduceToNat, Int.reduceEq, Int.reduceLT, Int.reduceLE, w64, List.length_append, List.length_map, Nat.mul_one, Act.cs]))
      all_goals first
        | omega
        | (exfalso; simp only [Fact, Bool.not_eq_true', Bool.not_eq_false', decide_eq_true_eq, decide_eq_false_iff_not] at *; omega)
        | (exfalso; simp only [Fact, Bool.not_eq_true', Bool.not_eq_false', decide_eq_true_eq, decide_eq_false_iff_not] at *; contradiction)
  | some p =>
    obtain ⟨t, r⟩ := p
    obtain ⟨hqe, hnt⟩ := cutL_some.1 hc
    have hlr := cutL_len hc
    have hlt : t.length ≤ q.length := by rw [hqe]; simp
    have hce := cut_of_nl (r := r) hnt
    rw [← hqe] at hce
    rw [hce] at hcut
    have hsp := p_SplitZ 32 t (by omega)
    have hrd := p_read (spx 32 t) (spx_pos _ _) (Nat.le_trans (spx_count _ _) (by omega)) (fun i => Nat.le_trans (spx_getlen _ _ _) (by omega))
    have hmy := p_aMay (readA (spx 32 t))
    cases hmay : mayA (readA (spx 32 t)) with
    | false =>
      rw [rest_bad hq hf (fun t' r' e => by rw [hc] at e; cases e; exact line_bad2 hmay)]
      rw [hmay] at hmy
      clear hqe hce
      simp (disch := omega) only [↓Ed, Eu, ↓reduceIte, reduceCtorEq, Nat.reduceAdd, Nat.reduceEqDiff, Nat.reduceLT, Nat.reduceLeDiff, Int.reduceToNat, Int.reduceEq, Int.reduceLT, Int.reduceLE, w64, List.length_append, List.length_map, Nat.mul_one, Act.cs]
      repeat' ((first | refine CallO_pure (hcut) ?_ | refine CallO_pure (hsp) ?_ | refine CallO_pure (hrd) ?_ | refine CallO_pure (hmy) ?_ | refine NewB_intro0 (fun b => ?_) | (refine NewB_intro (fun b hb => ?_); simp only [ln_cons2, ln_nil, and_true] at hb) | (with_reducible apply And.intro; (focus (first | omega | (simp only [Fact, Bool.not_eq_true', Bool.not_eq_false', decide_eq_true_eq, decide_eq_false_iff_not] at *; omega)))) | ((first | refine gW_sp ?_ | refine condW_sp ?_ | refine pickW_sp ?_); (try refine Sp_n ?_); (first | refine Sp_t (by assumption) ?_ | refine Sp_f (by assumption) ?_ | refine Sp_split (fun h => ?_) (fun h => ?_)) <;> (first | have h' := Fact_lt h | have h' := Fact_nlt h | have h' := Fact_le h | have h' := Fact_nle h | skip) <;> (try (exfalso; omega))) | refine TreeW_intro (by rfl) ?_ | refine Two_intro ?_ ?_ | exact leK_lit (by simp [LeL, lk, *]) | (show (_ : Nat) ≤ _; omega)) <;> (try simp (disch := omega) only [*, ↓Ed, Eu, ↓reduceIte, reduceCtorEq, Nat.reduceAdd, Nat.reduceEqDiff, Nat.reduceLT, Nat.reduceLeDiff, Int.reduceToNat, Int.reduceEq, Int.reduceLT, Int.reduceLE, w64, List.length_append, List.length_map, Nat.mul_one, Act.cs]))
      all_goals first
        | omega
        | (exfalso; simp only [Fact, Bool.not_eq_true', Bool.not_eq_false', decide_eq_true_eq, decide_eq_false_iff_not] at *; omega)
        | (exfalso; simp only [Fact, Bool.not_eq_true', Bool.not_eq_false', decide_eq_true_eq, decide_eq_false_iff_not] at *; contradiction)
    | true =>
      rw [hmay] at hmy
      have hln := p_line (readA (spx 32 t)) (of_decide_eq_true hmay) (readA_len fun i => Nat.le_trans (spx_getlen _ _ _) (by omega))
      have hpre := p_HasPrefix q (lineA (readA (spx 32 t)))
      cases hp : Lib.hasPrefix q (lineA (readA (spx 32 t))) with
      | false =>
        rw [rest_bad hq hf (fun t' r' e => by rw [hc] at e; cases e; exact line_bad hqe hnt hmay hp)]
        rw [hp] at hpre
        clear hqe hce
        simp (disch := omega) only [↓Ed, Eu, ↓reduceIte, reduceCtorEq, Nat.reduceAdd, Nat.reduceEqDiff, Nat.reduceLT, Nat.reduceLeDiff, Int.reduceToNat, Int.reduceEq, Int.reduceLT, Int.reduceLE, w64, List.length_append, List.length_map, Nat.mul_one, Act.cs]
        repeat' ((first | refine CallO_pure (hcut) ?_ | refine CallO_pure (hsp) ?_ | refine CallO_pure (hrd) ?_ | refine CallO_pure (hmy) ?_ | refine CallO_pure (hln) ?_ | refine CallO_pure (hpre) ?_ | refine NewB_intro0 (fun b => ?_) | (refine NewB_intro (fun b hb => ?_); simp only [ln_cons2, ln_nil, and_true] at hb) | (with_reducible apply And.intro; (focus (first | omega | (simp only [Fact, Bool.not_eq_true', Bool.not_eq_false', decide_eq_true_eq, decide_eq_false_iff_not] at *; omega)))) | ((first | refine gW_sp ?_ | refine condW_sp ?_ | refine pickW_sp ?_); (try refine Sp_n ?_); (first | refine Sp_t (by assumption) ?_ | refine Sp_f (by assumption) ?_ | refine Sp_split (fun h => ?_) (fun h => ?_)) <;> (first | have h' := Fact_lt h | have h' := Fact_nlt h | have h' := Fact_le h | have h' := Fact_nle h | skip) <;> (try (exfalso; omega))) | refine TreeW_intro (by rfl) ?_ | refine Two_intro ?_ ?_ | exact leK_lit (by simp [LeL, lk, *]) | (show (_ : Nat) ≤ _; omega)) <;> (try simp (disch := omega) only [*, ↓Ed, Eu, ↓reduceIte, reduceCtorEq, Nat.reduceAdd, Nat.reduceEqDiff, Nat.reduceLT, Nat.reduceLeDiff, Int.reduceToNat, Int.reduceEq, Int.reduceLT, Int.reduceLE, w64, List.length_append, List.length_map, Nat.mul_one, Act.cs]))
        all_goals first
          | omega
          | (exfalso; simp only [Fact, Bool.not_eq_true', Bool.not_eq_false', decide_eq_true_eq, decide_eq_false_iff_not] at *; omega)
          | (exfalso; simp only [Fact, Bool.not_eq_true', Bool.not_eq_false', decide_eq_true_eq, decide_eq_false_iff_not] at *; contradiction)
      | true =>
        have hok := line_ok hqe hnt hmay hp
        have hst := rest_step hf hc hok
        rw [hp] at hpre
        clear hqe hce hok
        generalize hR : restA out q = R at hst ⊢
        simp (disch := omega) only [↓Ed, Eu, ↓reduceIte, reduceCtorEq, Nat.reduceAdd, Nat.reduceEqDiff, Nat.reduceLT, Nat.reduceLeDiff, Int.reduceToNat, Int.reduceEq, Int.reduceLT, Int.reduceLE, w64, List.length_append, List.length_map, Nat.mul_one, Act.cs]
        repeat' ((first | refine CallO_pure (hcut) ?_ | refine CallO_pure (hsp) ?_ | refine CallO_pure (hrd) ?_ | refine CallO_pure (hmy) ?_ | refine CallO_pure (hln) ?_ | refine CallO_pure (hpre) ?_ | refine NewB_intro0 (fun b => ?_) | (refine NewB_intro (fun b hb => ?_); simp only [ln_cons2, ln_nil, and_true] at hb) | (with_reducible apply And.intro; (focus (first | omega | (simp only [Fact, Bool.not_eq_true', Bool.not_eq_false', decide_eq_true_eq, decide_eq_false_iff_not] at *; omega)))) | ((first | refine gW_sp ?_ | refine condW_sp ?_ | refine pickW_sp ?_); (try refine Sp_n ?_); (first | refine Sp_t (by assumption) ?_ | refine Sp_f (by assumption) ?_ | refine Sp_split (fun h => ?_) (fun h => ?_)) <;> (first | have h' := Fact_lt h | have h' := Fact_nlt h | have h' := Fact_le h | have h' := Fact_nle h | skip) <;> (try (exfalso; omega))) | refine TreeW_intro (by rfl) ?_ | refine Two_intro ?_ ?_ | exact leK_lit (by simp [LeL, lk, *]) | (show (_ : Nat) ≤ _; omega)) <;> (try simp (disch := omega) only [*, ↓Ed, Eu, ↓reduceIte, reduceCtorEq, Nat.reduceAdd, Nat.reduceEqDiff, Nat.reduceLT, Nat.reduceLeDiff, Int.reduceToNat, Int.reduceEq, Int.reduceLT, Int.reduceLE, w64, List.length_append, List.length_map, Nat.mul_one, Act.cs]))
        all_goals first
          | exact Round_lit (out ++ [readA (spx 32 t)], r) ⟨Le_lit (by simp [LeL, lk, acts, Act.cs]), ⟨by simp only; omega, by simp; omega, rfl⟩, by simp only; omega⟩
          | (exfalso; simp only [Fact, Bool.not_eq_true', Bool.not_eq_false', decide_eq_true_eq, decide_eq_false_iff_not] at *; omega)
          | (exfalso; simp only [Fact, Bool.not_eq_true', Bool.not_eq_false', decide_eq_true_eq, decide_eq_false_iff_not] at *; contradiction)
end Go.Proofs.YtfkkjhnbbimcaaaDoor
