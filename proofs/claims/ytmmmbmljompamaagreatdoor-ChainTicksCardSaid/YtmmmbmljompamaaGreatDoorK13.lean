import Derived.Test.YtmmmbmljompamaaGreatDoorK12
import Derived.Test.YtmmmbmljompamaaGreatDoorK9
import Derived.Test.YtmmmbmljompamaaGreatDoorK8
import Derived.Test.YtmmmbmljompamaaGreatDoorK11
namespace Go.Proofs.YtmmmbmljompamaaGreatDoor
set_option linter.all false
open Go.RowKit
set_option maxRecDepth 100000
theorem eiC_len (n k : Nat) (h : k ≤ 8) : (eiC n k).length = 8 := by
  simp only [eiC, List.length_map, List.length_append, List.length_replicate, List.length_drop, eight_len]; omega
theorem ei_byte (n k : Nat) (hn : n ≤ 72057594037927935) (h : k < 8) : IntKind.wrap .u8 ((IntKind.wrap .u64 (n : Int)).fdiv (2 ^ (min (8 * (k : Int)).toNat (IntKind.bits .u64)))) = ((n / 256 ^ k % 256 : Nat) : Int) := by
  have e1 : IntKind.wrap .u64 (n : Int) = (n : Int) := by rw [IntKind.wrap_u64]; omega
  have e2 : min (8 * (k : Int)).toNat (IntKind.bits .u64) = 8 * k := by
    show min _ 64 = _
    omega
  rw [e1, e2]
  have e4 : ((2 : Int) ^ (8 * k)) = ((256 ^ k : Nat) : Int) := by
    rw [show (256 : Nat) = 2 ^ 8 from rfl, ← Nat.pow_mul]; simp
  rw [e4, Int.fdiv_eq_ediv_of_nonneg _ (Int.natCast_nonneg _), ← Int.natCast_ediv]
  generalize n / 256 ^ k = q
  show ((q : Int) % 256) = _
  omega
theorem sxTrb {A B : Prop} (h : B) (e : A = B := by (simp (disch := omega) only [*, ↓Ed, Eu, ↓reduceIte, reduceCtorEq, Nat.reduceAdd, Nat.reduceEqDiff, Nat.reduceLT, Nat.reduceLeDiff, Int.reduceToNat, Int.reduceEq, Int.reduceLT, Int.reduceLE, w64, List.length_append, List.length_map, List.length_cons, List.length_nil, Int.reduceAdd, Nat.zero_add, Nat.mul_one, Int.toNat_natCast, eiC_len]; first | done | rfl)) : A := e ▸ h
theorem p_kEight (n : Nat) (h : n ≤ 72057594037927935) : CP Tryz.prog 84 [.int .i64 (n : Int)] (.str (eight n)) := by
  have hM := p_may (n : Int)
  rw [decide_eq_true (by omega)] at hM
  refine ok_leb_Eight _ _ (by simp) ?_
  simp (disch := omega) only [c_leb_Eight, ↓Ed, Eu, ↓reduceIte, reduceCtorEq, Nat.reduceAdd, Nat.reduceEqDiff, Nat.reduceLT, Nat.reduceLeDiff, Int.reduceToNat, Int.reduceEq, Int.reduceLT, Int.reduceLE, w64, List.length_append, List.length_map, List.length_cons, List.length_nil, Int.reduceAdd, Nat.zero_add, Nat.mul_one, Int.toNat_natCast, eiC_len]
  repeat' ((first | refine CallO_pure (hM) ?_ | refine NewB_intro0 (fun b => ?_) | (refine NewB_intro (fun b hb => ?_); simp only [ln_cons2, ln_nil, and_true] at hb) | (with_reducible apply wA; focus exact OM_a) | ((first | refine gW_sp ?_ | refine condW_sp ?_ | refine pickW_sp ?_); (try refine Sp_n ?_); (first | refine wT ?_ | refine wF ?_ | refine wL (fun h h' => ?_) (fun h h' => ?_) | refine wE (fun h h' => ?_) (fun h h' => ?_) | refine Sp_split (fun h => ?_) (fun h => ?_)) <;> (try (exfalso; omega))) | refine TreeW_intro (by rfl) ?_ | refine TreeW_all ?_ | refine upQ_intro ?_ | refine Two_intro ?_ ?_ | exact wZ | fail) <;> (try refine sxTrb ?_) <;> (try exact True.intro))
  refine wpx_loop (fun k : Nat => ⟨lk [(0, .int .i64 (n : Int)), (3, .ptr b 0), (8, .int .i64 (k : Int))], lk [(b, eiC n k)]⟩) (fun k => k ≤ 8) (fun k => 8 - k) 0 (by omega) (Le_lit (by simp [LeL, lk, eiC, byC, eight, List.replicate])) ?_
  intro k hk
  by_cases hk8 : k < 8
  rotate_left
  · obtain rfl : k = 8 := by omega
    have f1 : Fact (decide (((8 : Nat) : Int) < 8) = false) := by simp [Fact]
    simp (disch := omega) only [↓Ed, Eu, ↓reduceIte, reduceCtorEq, Nat.reduceAdd, Nat.reduceEqDiff, Nat.reduceLT, Nat.reduceLeDiff, Int.reduceToNat, Int.reduceEq, Int.reduceLT, Int.reduceLE, w64, List.length_append, List.length_map, List.length_cons, List.length_nil, Int.reduceAdd, Nat.zero_add, Nat.mul_one, Int.toNat_natCast, eiC_len]
    repeat' ((first | refine BytesO_intro (eight n) rfl rfl ?_ | refine NewB_intro0 (fun b => ?_) | (refine NewB_intro (fun b hb => ?_); simp only [ln_cons2, ln_nil, and_true] at hb) | (with_reducible apply wA; focus exact OM_a) | ((first | refine gW_sp ?_ | refine condW_sp ?_ | refine pickW_sp ?_); (try refine Sp_n ?_); (first | refine wT ?_ | refine wF ?_ | refine wL (fun h h' => ?_) (fun h h' => ?_) | refine wE (fun h h' => ?_) (fun h h' => ?_) | refine Sp_split (fun h => ?_) (fun h => ?_)) <;> (try (exfalso; omega))) | refine TreeW_intro (by rfl) ?_ | refine TreeW_all ?_ | refine upQ_intro ?_ | refine Two_intro ?_ ?_ | exact wZ | fail) <;> (try refine sxTrb ?_) <;> (try exact True.intro))
  have f1 : Fact (decide ((k : Int) < 8) = true) := by simp only [Fact, Bool.not_eq_true', Bool.not_eq_false', decide_eq_true_eq, decide_eq_false_iff_not]; omega
  have e1 := ei_byte n k h hk8
  have e3 := ei_step n k hk8
  have e5 : (7 - (k : Int)).toNat * 1 = 7 - k := by omega
  have e6 : (7 - (k : Int)).toNat = 7 - k := by omega
  simp (disch := omega) only [↓Ed, Eu, ↓reduceIte, reduceCtorEq, Nat.reduceAdd, Nat.reduceEqDiff, Nat.reduceLT, Nat.reduceLeDiff, Int.reduceToNat, Int.reduceEq, Int.reduceLT, Int.reduceLE, w64, List.length_append, List.length_map, List.length_cons, List.length_nil, Int.reduceAdd, Nat.zero_add, Nat.mul_one, Int.toNat_natCast, eiC_len]
  repeat' ((first | refine NewB_intro0 (fun b => ?_) | (refine NewB_intro (fun b hb => ?_); simp only [ln_cons2, ln_nil, and_true] at hb) | (with_reducible apply wA; focus exact OM_a) | ((first | refine gW_sp ?_ | refine condW_sp ?_ | refine pickW_sp ?_); (try refine Sp_n ?_); (first | refine wT ?_ | refine wF ?_ | refine wL (fun h h' => ?_) (fun h h' => ?_) | refine wE (fun h h' => ?_) (fun h h' => ?_) | refine Sp_split (fun h => ?_) (fun h => ?_)) <;> (try (exfalso; omega))) | refine TreeW_intro (by rfl) ?_ | refine TreeW_all ?_ | refine upQ_intro ?_ | refine Two_intro ?_ ?_ | exact wZ | fail) <;> (try refine sxTrb ?_) <;> (try exact True.intro))
  all_goals exact Round_lit (k + 1) ⟨Le_lit (by simp [LeL, lk]), by omega, by omega⟩
end Go.Proofs.YtmmmbmljompamaaGreatDoor

namespace Go.Proofs.YtmmmbmljompamaaGreatDoor
set_option linter.all false
open Go.RowKit
set_option maxRecDepth 100000
theorem sxTrk {A B : Prop} (h : B) (e : A = B := by (simp (disch := omega) only [*, ↓Ed, Eu, ↓reduceIte, reduceCtorEq, Nat.reduceAdd, Nat.reduceEqDiff, Nat.reduceLT, Nat.reduceLeDiff, Int.reduceToNat, Int.reduceEq, Int.reduceLT, Int.reduceLE, w64, List.length_append, List.length_map, List.length_cons, List.length_nil, Int.reduceAdd, Nat.zero_add, Nat.mul_one]; first | done | rfl)) : A := e ▸ h
theorem p_kRoot (n : Nat) (t : Hs) (ht : t.length = 32) (hn : n ≤ 1073741824) : CP Tryz.prog 65 [.int .i64 (n : Int), .agg (hcs t)] (.agg (hcs (rootH n t))) := by
  have hE := p_kEight n (by omega)
  have h1 := p_sText t ht
  have hS := p_sSum (.sl none 1 [[.str [2]], [.str (eight n)], [.str t]]) [[2], eight n, t] rfl (by simp) (by simp [eight_len]; omega)
  rw [show shaP [[2], eight n, t].flatten = rootH n t by unfold rootH; simp] at hS
  refine ok_tree_Root _ _ (by simp) ?_
  obtain ⟨z1, z2, z3, z4⟩ := hz_rules (root_len n t)
  obtain ⟨y1, y2, y3, y4⟩ := hz_rules ht
  generalize eight n = e at *
  generalize hcs (rootH n t) = Z at *
  generalize hcs t = Y at *
  simp (disch := omega) only [c_tree_Root, ↓Ed, Eu, ↓reduceIte, reduceCtorEq, Nat.reduceAdd, Nat.reduceEqDiff, Nat.reduceLT, Nat.reduceLeDiff, Int.reduceToNat, Int.reduceEq, Int.reduceLT, Int.reduceLE, w64, List.length_append, List.length_map, List.length_cons, List.length_nil, Int.reduceAdd, Nat.zero_add, Nat.mul_one]
  repeat' ((first | refine CallO_pure (hE) ?_ | refine CallW_intro (hE) ?_ | refine CallO_pure (h1) ?_ | refine CallW_intro (h1) ?_ | refine CallO_pure (hS) ?_ | refine CallW_intro (hS) ?_ | refine NewB_intro0 (fun b => ?_) | (refine NewB_intro (fun b hb => ?_); simp only [ln_cons2, ln_nil, and_true] at hb) | (with_reducible apply wA; focus exact OM_a) | ((first | refine gW_sp ?_ | refine condW_sp ?_ | refine pickW_sp ?_); (try refine Sp_n ?_); (first | refine wT ?_ | refine wF ?_ | refine wL (fun h h' => ?_) (fun h h' => ?_) | refine wE (fun h h' => ?_) (fun h h' => ?_) | refine Sp_split (fun h => ?_) (fun h => ?_)) <;> (try (exfalso; omega))) | refine TreeW_intro (by rfl) ?_ | refine TreeW_all ?_ | refine upQ_intro ?_ | refine Two_intro ?_ ?_ | exact wZ | fail) <;> (try refine sxTrk ?_) <;> (try exact True.intro))
end Go.Proofs.YtmmmbmljompamaaGreatDoor

namespace Go.Proofs.YtmmmbmljompamaaGreatDoor
set_option linter.all false
open Go.RowKit
set_option maxRecDepth 100000
end Go.Proofs.YtmmmbmljompamaaGreatDoor

namespace Go.Proofs.YtmmmbmljompamaaGreatDoor
set_option linter.all false
open Go.RowKit
set_option maxRecDepth 100000
theorem stH_first {m : List HdC} {a : Int} {k : Nat} (hk : k < m.length) (h1 : ∀ i, i < k → (m.getD i default).h ≠ a) (h2 : (m.getD k default).h = a) : stH m a = some (m.getD k default) := by
  induction m generalizing k with
  | nil => simp at hk
  | cons x m ih =>
    cases k with
    | zero => simp at h2; simp [stH, h2]
    | succ k =>
      have h0 := h1 0 (by omega)
      simp at h0
      have := ih (k := k) (by simpa using hk) (fun i hi => by simpa using h1 (i + 1) (by omega)) (by simpa using h2)
      simp only [stH, List.find?_cons, h0, decide_false]
      simpa [stH] using this
theorem stH_end {m : List HdC} {a : Int} (h1 : ∀ i, i < m.length → (m.getD i default).h ≠ a) : stH m a = none := by
  unfold stH
  rw [List.find?_eq_none]
  intro x hx
  obtain ⟨i, hi, rfl⟩ := List.getElem_of_mem hx
  have := h1 i hi
  simpa [List.getD, hi] using this
end Go.Proofs.YtmmmbmljompamaaGreatDoor

namespace Go.Proofs.YtmmmbmljompamaaGreatDoor
set_option linter.all false
open Go.RowKit
set_option maxRecDepth 100000
def hk (l : List HdC) : List AV := (l.map HdC.h).map markK
def hv (l : List HdC) : List AV := l.map hdK
theorem look_none {l : List HdC} {a : Int} (h : stH l a = none) : findM [.i] true (.agg [.int .i64 a]) (hk l) = some none := by
  refine findM_no [.i] true markK markK_eq a _ fun hm => ?_
  obtain ⟨x, hx, e⟩ := List.mem_map.1 hm
  exact stH_none h x hx e
theorem look_some {l : List HdC} {a : Int} {x : HdC} (h : stH l a = some x) : ∃ i, i < l.length ∧ findM [.i] true (.agg [.int .i64 a]) (hk l) = some (some i) ∧ (hv l).getD i .undef = .agg x.cs ∧ l[i]? = some x := by
  induction l with
  | nil => simp [stH] at h
  | cons y l ih =>
    have e := findM_map [.i] true markK markK_eq a ((y :: l).map HdC.h)
    by_cases hy : y.h = a
    · simp [stH, hy] at h
      subst h
      refine ⟨0, by simp, ?_, rfl, rfl⟩
      show findM _ _ (markK a) _ = _
      rw [hk, e, List.map_cons, List.idxOf?_cons, hy]; simp
    · simp only [stH, List.find?_cons, hy, decide_false] at h
      obtain ⟨i, h1, h2, h3, h4⟩ := ih h
      refine ⟨i + 1, by simpa using h1, ?_, by simpa [hv] using h3, by simpa using h4⟩
      have e2 := findM_map [.i] true markK markK_eq a (l.map HdC.h)
      have h2' : findM [.i] true (markK a) ((l.map HdC.h).map markK) = some (some i) := h2
      rw [e2] at h2'
      show findM _ _ (markK a) _ = _
      rw [hk, e, List.map_cons, List.idxOf?_cons]
      have : (y.h == a) = false := by simp [hy]
      rw [this]
      simp only [Option.some.injEq] at h2'
      simp [h2']
end Go.Proofs.YtmmmbmljompamaaGreatDoor

namespace Go.Proofs.YtmmmbmljompamaaGreatDoor
set_option linter.all false
open Go.RowKit
theorem CallO_exr {P : Program} {d : Option Nat} {s : St} {K : St → Prop} {α : Type} {f : Nat} {vs : List AV} {r : α → AV} {o1 : List (Nat × List AV)} {o2 : α → List (Nat × List AV)} {p : α → Prop}
    (h : CT P f vs (lk o1) (fun r' o' => ∃ x, p x ∧ r' = r x ∧ o' = lk (o2 x))) (hsub : ∀ b cs, lk o1 b = some cs → s.o b = some cs)
    (hK : ∀ x, p x → (∀ b cs, lk (o2 x) b = some cs → lk o1 b = none → s.o b = none) → KS (St.put ⟨s.t, ovr (o2 x) s.o⟩ d (r x)) K) : CallO P f vs d s K := by
  refine ⟨lk o1, _, hsub, h, ?_⟩
  rintro r' o' ⟨x, hx, rfl, rfl⟩ hf
  exact hK x hx hf
theorem ro_exr {s : St} {rs : List AR} {o1 : List (Nat × List AV)} {α : Type} {r : α → AV} {o2 : α → List (Nat × List AV)} {q : α → Prop} (x : α) (h : resR s rs (r x) ∧ LeL (o2 x) s.o) (hq : q x)
    (hd : ∀ b cs, lk o1 b = some cs → ∃ cs', lk (o2 x) b = some cs') : RetO s rs (lk o1) (fun r' o' => ∃ x, q x ∧ r' = r x ∧ o' = lk (o2 x)) :=
  ⟨_, h.1, lk (o2 x), LeL_ok h.2, hd, x, hq, rfl, rfl⟩
theorem CallN_exr {P : Program} {d : Option Nat} {s : St} {K : St → Prop} {α : Type} {f : Nat} {vs : List AV} {r : α → AV} {o2 : α → List (Nat × List AV)} {p : α → Prop}
    (h : CT P f vs (lk []) (fun r' o' => ∃ x, p x ∧ r' = r x ∧ o' = lk (o2 x)))
    (hK : ∀ x, p x → (∀ b cs, lk (o2 x) b = some cs → s.o b = none) → KS (St.put ⟨s.t, ovr (o2 x) s.o⟩ d (r x)) K) : CallN P f vs d s K := by
  refine ⟨_, h, ?_⟩
  rintro r' o' ⟨x, hx, rfl, rfl⟩ hf
  exact hK x hx hf
theorem dom_keys {α : Type} : ∀ {l m : List (Nat × α)}, l.map Prod.fst = m.map Prod.fst → ∀ b cs, lk l b = some cs → ∃ cs', lk m b = some cs'
  | [], _, _, b, cs, h => by simp [lk] at h
  | (k, x) :: l, [], e, b, cs, h => by simp at e
  | (k, x) :: l, (k', y) :: m, e, b, cs, h => by
    simp only [List.map_cons, List.cons.injEq] at e
    obtain ⟨rfl, e⟩ := e
    rw [lk_cons] at h ⊢
    by_cases hb : b = k
    · rw [if_pos hb]; exact ⟨y, rfl⟩
    · rw [if_neg hb] at h ⊢; exact dom_keys e b cs h
end Go.Proofs.YtmmmbmljompamaaGreatDoor

namespace Go.Proofs.YtmmmbmljompamaaGreatDoor
set_option linter.all false
open Go.RowKit
set_option maxRecDepth 100000
theorem z_eq : hcs zeroH = z32 := rfl
theorem sxCtb {A B : Prop} (h : B) (e : A = B := by (simp (disch := omega) only [*, ↓Ed, Eu, ↓reduceIte, reduceCtorEq, Nat.reduceAdd, Nat.reduceEqDiff, Nat.reduceLT, Nat.reduceLeDiff, Int.reduceToNat, Int.reduceEq, Int.reduceLT, Int.reduceLE, w64, List.length_append, List.length_map, List.length_cons, List.length_nil, Int.reduceAdd, Nat.zero_add, Nat.mul_one, beq_self_eq_true]; first | done | rfl)) : A := e ▸ h
theorem p_kTop0 : CP Tryz.prog 66 [.sl none 32 []] (.agg (hcs zeroH)) := by
  rw [z_eq]
  have f0 : Fact (decide (((0 : Nat) : Int) = 0) = true) := rfl
  refine ok_tree_Top _ _ (by simp) ?_
  simp (disch := omega) only [c_tree_Top, ↓Ed, Eu, ↓reduceIte, reduceCtorEq, Nat.reduceAdd, Nat.reduceEqDiff, Nat.reduceLT, Nat.reduceLeDiff, Int.reduceToNat, Int.reduceEq, Int.reduceLT, Int.reduceLE, w64, List.length_append, List.length_map, List.length_cons, List.length_nil, Int.reduceAdd, Nat.zero_add, Nat.mul_one, beq_self_eq_true]
  repeat' ((first | refine NewB_intro0 (fun b => ?_) | (refine NewB_intro (fun b hb => ?_); simp only [ln_cons2, ln_nil, and_true] at hb) | (with_reducible apply wA; focus exact OM_a) | ((first | refine gW_sp ?_ | refine condW_sp ?_ | refine pickW_sp ?_); (try refine Sp_n ?_); (first | refine wT ?_ | refine wF ?_ | refine wL (fun h h' => ?_) (fun h h' => ?_) | refine wE (fun h h' => ?_) (fun h h' => ?_) | refine Sp_split (fun h => ?_) (fun h => ?_)) <;> (try (exfalso; omega))) | refine TreeW_intro (by rfl) ?_ | refine TreeW_all ?_ | refine upQ_intro ?_ | refine Two_intro ?_ ?_ | exact wZ | fail) <;> (try refine sxCtb ?_) <;> (try exact True.intro))
theorem p_sums0 : CP Tryz.prog 67 [.hnil 118 2] (.sl (some 38) 32 []) := by
  refine ok_proof_sums _ _ (by simp) ?_
  simp (disch := omega) only [c_proof_sums, ↓Ed, Eu, ↓reduceIte, reduceCtorEq, Nat.reduceAdd, Nat.reduceEqDiff, Nat.reduceLT, Nat.reduceLeDiff, Int.reduceToNat, Int.reduceEq, Int.reduceLT, Int.reduceLE, w64, List.length_append, List.length_map, List.length_cons, List.length_nil, Int.reduceAdd, Nat.zero_add, Nat.mul_one, beq_self_eq_true]
  repeat' ((first | refine NewB_intro0 (fun b => ?_) | (refine NewB_intro (fun b hb => ?_); simp only [ln_cons2, ln_nil, and_true] at hb) | (with_reducible apply wA; focus exact OM_a) | ((first | refine gW_sp ?_ | refine condW_sp ?_ | refine pickW_sp ?_); (try refine Sp_n ?_); (first | refine wT ?_ | refine wF ?_ | refine wL (fun h h' => ?_) (fun h h' => ?_) | refine wE (fun h h' => ?_) (fun h h' => ?_) | refine Sp_split (fun h => ?_) (fun h => ?_)) <;> (try (exfalso; omega))) | refine TreeW_intro (by rfl) ?_ | refine TreeW_all ?_ | refine upQ_intro ?_ | refine Two_intro ?_ ?_ | exact wZ | fail) <;> (try refine sxCtb ?_) <;> (try exact True.intro))
  refine wpx_loop (fun _ : Nat => ⟨lk [(3, .sl (some 38) 32 []), (6, .hnil 118 2), (7, .int .i64 0), (8, .int .i64 0)], lk []⟩) (fun _ => True) (fun _ => 0) 0 trivial (Le_lit (by simp [LeL, lk])) ?_
  intro k _
  simp (disch := omega) only [↓Ed, Eu, ↓reduceIte, reduceCtorEq, Nat.reduceAdd, Nat.reduceEqDiff, Nat.reduceLT, Nat.reduceLeDiff, Int.reduceToNat, Int.reduceEq, Int.reduceLT, Int.reduceLE, w64, List.length_append, List.length_map, List.length_cons, List.length_nil, Int.reduceAdd, Nat.zero_add, Nat.mul_one, beq_self_eq_true]
  repeat' ((first | refine NewB_intro0 (fun b => ?_) | (refine NewB_intro (fun b hb => ?_); simp only [ln_cons2, ln_nil, and_true] at hb) | (with_reducible apply wA; focus exact OM_a) | ((first | refine gW_sp ?_ | refine condW_sp ?_ | refine pickW_sp ?_); (try refine Sp_n ?_); (first | refine wT ?_ | refine wF ?_ | refine wL (fun h h' => ?_) (fun h h' => ?_) | refine wE (fun h h' => ?_) (fun h h' => ?_) | refine Sp_split (fun h => ?_) (fun h => ?_)) <;> (try (exfalso; omega))) | refine TreeW_intro (by rfl) ?_ | refine TreeW_all ?_ | refine upQ_intro ?_ | refine Two_intro ?_ ?_ | exact wZ | fail) <;> (try refine sxCtb ?_) <;> (try exact True.intro))
def R0 : Hs := rootH 0 zeroH
theorem R0_len : R0.length = 32 := root_len _ _
theorem p_pRoot0 : CP Tryz.prog 47 [.hnil 118 2] (.agg (hcs R0)) := by
  have hR := p_kRoot 0 zeroH rfl (by omega)
  rw [z_eq] at hR
  have hT := p_kTop0
  rw [z_eq] at hT
  refine ok_proof_Root _ _ (by simp) ?_
  obtain ⟨z1, z2, z3, z4⟩ := hz_rules R0_len
  change CP _ _ _ (.agg (hcs R0)) at hR
  generalize hcs R0 = Z at *
  simp (disch := omega) only [c_proof_Root, ↓Ed, Eu, ↓reduceIte, reduceCtorEq, Nat.reduceAdd, Nat.reduceEqDiff, Nat.reduceLT, Nat.reduceLeDiff, Int.reduceToNat, Int.reduceEq, Int.reduceLT, Int.reduceLE, w64, List.length_append, List.length_map, List.length_cons, List.length_nil, Int.reduceAdd, Nat.zero_add, Nat.mul_one, beq_self_eq_true]
  repeat' ((first | refine CallO_pure (p_sums0) ?_ | refine CallO_pure (hT) ?_ | refine CallO_pure (hR) ?_ | refine NewB_intro0 (fun b => ?_) | (refine NewB_intro (fun b hb => ?_); simp only [ln_cons2, ln_nil, and_true] at hb) | (with_reducible apply wA; focus exact OM_a) | ((first | refine gW_sp ?_ | refine condW_sp ?_ | refine pickW_sp ?_); (try refine Sp_n ?_); (first | refine wT ?_ | refine wF ?_ | refine wL (fun h h' => ?_) (fun h h' => ?_) | refine wE (fun h h' => ?_) (fun h h' => ?_) | refine Sp_split (fun h => ?_) (fun h => ?_)) <;> (try (exfalso; omega))) | refine TreeW_intro (by rfl) ?_ | refine TreeW_all ?_ | refine upQ_intro ?_ | refine Two_intro ?_ ?_ | exact wZ | fail) <;> (try refine sxCtb ?_) <;> (try exact True.intro))
theorem t_sRoot0 (s : Nat) : CT Tryz.prog 32 [.ptr s 0] (lk [(s, [.nils 118 2])]) (fun r o => r = .agg (hcs R0) ∧ o = lk [(s, [.nils 118 2])]) := by
  refine okt_store_Store_Root _ _ _ (by simp) ?_
  obtain ⟨z1, z2, z3, z4⟩ := hz_rules R0_len
  have hR := p_pRoot0
  generalize hcs R0 = Z at *
  simp (disch := omega) only [c_store_Store_Root, ↓Ed, Eu, ↓reduceIte, reduceCtorEq, Nat.reduceAdd, Nat.reduceEqDiff, Nat.reduceLT, Nat.reduceLeDiff, Int.reduceToNat, Int.reduceEq, Int.reduceLT, Int.reduceLE, w64, List.length_append, List.length_map, List.length_cons, List.length_nil, Int.reduceAdd, Nat.zero_add, Nat.mul_one, beq_self_eq_true]
  repeat' ((first | refine CallO_pure (hR) ?_ | refine NewB_intro0 (fun b => ?_) | (refine NewB_intro (fun b hb => ?_); simp only [ln_cons2, ln_nil, and_true] at hb) | (with_reducible apply wA; focus exact OM_a) | ((first | refine gW_sp ?_ | refine condW_sp ?_ | refine pickW_sp ?_); (try refine Sp_n ?_); (first | refine wT ?_ | refine wF ?_ | refine wL (fun h h' => ?_) (fun h h' => ?_) | refine wE (fun h h' => ?_) (fun h h' => ?_) | refine Sp_split (fun h => ?_) (fun h => ?_)) <;> (try (exfalso; omega))) | refine TreeW_intro (by rfl) ?_ | refine TreeW_all ?_ | refine upQ_intro ?_ | refine Two_intro ?_ ?_ | exact wZ | fail) <;> (try refine sxCtb ?_) <;> (try exact True.intro))
  all_goals exact ro_mk (by simp [LeL, lk, resR, ldR, r_two, rl_cons, rl_nil, arR, al_agg, al_bool, AV.alias, view, l_all, *]) (sameD _)
theorem t_sCopy0 (s : Nat) : CT Tryz.prog 33 [.ptr s 0] (lk [(s, [.nils 118 2])]) (fun r o => ∃ b : Nat, (¬ b = s ∧ ¬ s = b) ∧ r = .ptr b 0 ∧ o = lk [(s, [.nils 118 2])]) := by
  refine okt_store_Store_Copy _ _ _ (by simp) ?_
  simp (disch := omega) only [c_store_Store_Copy, ↓Ed, Eu, ↓reduceIte, reduceCtorEq, Nat.reduceAdd, Nat.reduceEqDiff, Nat.reduceLT, Nat.reduceLeDiff, Int.reduceToNat, Int.reduceEq, Int.reduceLT, Int.reduceLE, w64, List.length_append, List.length_map, List.length_cons, List.length_nil, Int.reduceAdd, Nat.zero_add, Nat.mul_one, beq_self_eq_true]
  repeat' ((first | refine c0 t_clnN ?_ | refine NewB_intro0 (fun b => ?_) | (refine NewB_intro (fun b hb => ?_); simp only [ln_cons2, ln_nil, and_true] at hb) | (with_reducible apply wA; focus exact OM_a) | ((first | refine gW_sp ?_ | refine condW_sp ?_ | refine pickW_sp ?_); (try refine Sp_n ?_); (first | refine wT ?_ | refine wF ?_ | refine wL (fun h h' => ?_) (fun h h' => ?_) | refine wE (fun h h' => ?_) (fun h h' => ?_) | refine Sp_split (fun h => ?_) (fun h => ?_)) <;> (try (exfalso; omega))) | refine TreeW_intro (by rfl) ?_ | refine TreeW_all ?_ | refine upQ_intro ?_ | refine Two_intro ?_ ?_ | exact wZ | fail) <;> (try refine sxCtb ?_) <;> (try exact True.intro))
  all_goals exact ro_exr b (by simp [LeL, lk, resR, arR, *]) hb (sameD _)
structure RcC where
  x : HdC
  b : Nat
  deriving Inhabited
def rcH (l : List RcC) : List HdC := l.map RcC.x
abbrev RcC.cs (q : RcC) : List AV := q.x.cs ++ [.ptr q.b 0]
def rv (l : List RcC) : List AV := l.map fun q => .agg q.cs
abbrev mpR (l : List RcC) : AV := .mp (hk (rcH l)) (rv l) (List.range l.length) l.length
def mkR (l : List RcC) : List (List AV) := l.map fun q => [.int .i64 q.x.h]
def mkC : List RcC → AV
  | [] => .nils 88 1
  | l => .sl (some 88) 1 (mkR l)
abbrev pmO (p m : Nat) (l : List RcC) : List (Nat × List AV) := [(p, [.mapv m, mkC l]), (m, [mpR l])]
def RcI (l : List RcC) : Prop := ∀ i, i < l.length → (l.getD i default).x.h = (i : Int) + 1
theorem mkR_len (l : List RcC) : (mkR l).length = l.length := by simp [mkR]
theorem mkC_ne {l : List RcC} (h : l ≠ []) : mkC l = .sl (some 88) 1 (mkR l) := by
  cases l with
  | nil => exact absurd rfl h
  | cons q l => rfl
theorem t_pNew : CT Tryz.prog 17 [] (lk []) (fun r o => ∃ q : Nat × Nat, (¬ q.1 = q.2 ∧ ¬ q.2 = q.1) ∧ r = .ptr q.1 0 ∧ o = lk (pmO q.1 q.2 [])) := by
  refine okt_past_New _ _ _ (by simp) ?_
  simp (disch := omega) only [c_past_New, ↓Ed, Eu, ↓reduceIte, reduceCtorEq, Nat.reduceAdd, Nat.reduceEqDiff, Nat.reduceLT, Nat.reduceLeDiff, Int.reduceToNat, Int.reduceEq, Int.reduceLT, Int.reduceLE, w64, List.length_append, List.length_map, List.length_cons, List.length_nil, Int.reduceAdd, Nat.zero_add, Nat.mul_one, beq_self_eq_true]
  repeat' ((first | refine NewB_intro0 (fun b => ?_) | (refine NewB_intro (fun b hb => ?_); simp only [ln_cons2, ln_nil, and_true] at hb) | (with_reducible apply wA; focus exact OM_a) | ((first | refine gW_sp ?_ | refine condW_sp ?_ | refine pickW_sp ?_); (try refine Sp_n ?_); (first | refine wT ?_ | refine wF ?_ | refine wL (fun h h' => ?_) (fun h h' => ?_) | refine wE (fun h h' => ?_) (fun h h' => ?_) | refine Sp_split (fun h => ?_) (fun h => ?_)) <;> (try (exfalso; omega))) | refine TreeW_intro (by rfl) ?_ | refine TreeW_all ?_ | refine upQ_intro ?_ | refine Two_intro ?_ ?_ | exact wZ | fail) <;> (try refine sxCtb ?_) <;> (try exact True.intro))
  rename_i m
  exact ro_exr (b, m) (by simp [LeL, lk, resR, arR, hk, rcH, rv, mkC, *]) (by simp [*]) (fun b' cs h => by simp [lk] at h)
theorem t_pLast (p : Nat) (l : List RcC) (hI : RcI l) (hl : l.length ≤ 1000) (v : AV) : CT Tryz.prog 24 [.ptr p 0] (lk [(p, [v, mkC l])]) (fun r o => r = .int .i64 (l.length : Int) ∧ o = lk [(p, [v, mkC l])]) := by
  refine okt_past_Past_Last _ _ _ (by simp) ?_
  by_cases h0 : l = []
  · subst h0
    have f0 : Fact (decide (((0 : Nat) : Int) = 0) = true) := rfl
    simp (disch := omega) only [c_past_Past_Last, mkC, ↓Ed, Eu, ↓reduceIte, reduceCtorEq, Nat.reduceAdd, Nat.reduceEqDiff, Nat.reduceLT, Nat.reduceLeDiff, Int.reduceToNat, Int.reduceEq, Int.reduceLT, Int.reduceLE, w64, List.length_append, List.length_map, List.length_cons, List.length_nil, Int.reduceAdd, Nat.zero_add, Nat.mul_one, beq_self_eq_true]
    repeat' ((first | refine NewB_intro0 (fun b => ?_) | (refine NewB_intro (fun b hb => ?_); simp only [ln_cons2, ln_nil, and_true] at hb) | (with_reducible apply wA; focus exact OM_a) | ((first | refine gW_sp ?_ | refine condW_sp ?_ | refine pickW_sp ?_); (try refine Sp_n ?_); (first | refine wT ?_ | refine wF ?_ | refine wL (fun h h' => ?_) (fun h h' => ?_) | refine wE (fun h h' => ?_) (fun h h' => ?_) | refine Sp_split (fun h => ?_) (fun h => ?_)) <;> (try (exfalso; omega))) | refine TreeW_intro (by rfl) ?_ | refine TreeW_all ?_ | refine upQ_intro ?_ | refine Two_intro ?_ ?_ | exact wZ | fail) <;> (try refine sxCtb ?_) <;> (try exact True.intro))
    all_goals exact ro_mk (by simp [LeL, lk, resR, arR, *]) (sameD _)
  · have hpos : 0 < l.length := List.length_pos_iff.2 h0
    have e := hI (l.length - 1) (by omega)
    have e1 : (l.length : Int) - 1 = ((l.length - 1 : Nat) : Int) := by omega
    have hg : (mkR l).getD (l.length - 1) [] = [.int .i64 (l.length : Int)] := by
      rw [show (l.length : Int) = ((l.length - 1 : Nat) : Int) + 1 by omega, ← e]
      simp [mkR, List.getD, show l.length - 1 < l.length by omega]
    have hm := mkR_len l
    have f1 : Fact (decide ((l.length : Int) = 0) = false) := by simp only [Fact, Bool.not_eq_true', Bool.not_eq_false', decide_eq_true_eq, decide_eq_false_iff_not]; omega
    rw [mkC_ne h0]
    generalize mkR l = X at *
    have e2 : ((l.length - 1 : Nat) : Int).toNat = l.length - 1 := by omega
    simp (disch := omega) only [c_past_Past_Last, hm, e1, e2, hg, ↓Ed, Eu, ↓reduceIte, reduceCtorEq, Nat.reduceAdd, Nat.reduceEqDiff, Nat.reduceLT, Nat.reduceLeDiff, Int.reduceToNat, Int.reduceEq, Int.reduceLT, Int.reduceLE, w64, List.length_append, List.length_map, List.length_cons, List.length_nil, Int.reduceAdd, Nat.zero_add, Nat.mul_one, beq_self_eq_true]
    repeat' ((first | refine NewB_intro0 (fun b => ?_) | (refine NewB_intro (fun b hb => ?_); simp only [ln_cons2, ln_nil, and_true] at hb) | (with_reducible apply wA; focus exact OM_a) | ((first | refine gW_sp ?_ | refine condW_sp ?_ | refine pickW_sp ?_); (try refine Sp_n ?_); (first | refine wT ?_ | refine wF ?_ | refine wL (fun h h' => ?_) (fun h h' => ?_) | refine wE (fun h h' => ?_) (fun h h' => ?_) | refine Sp_split (fun h => ?_) (fun h => ?_)) <;> (try (exfalso; omega))) | refine TreeW_intro (by rfl) ?_ | refine TreeW_all ?_ | refine upQ_intro ?_ | refine Two_intro ?_ ?_ | exact wZ | fail) <;> (try refine sxCtb ?_) <;> (try exact True.intro))
    all_goals first
    | exact ro_mk (by simp [LeL, lk, resR, arR, *]) (sameD _)
    | omega
theorem rcH_get (l : List RcC) (i : Nat) : (rcH l).getD i default = (l.getD i default).x := by
  simp only [rcH, List.getD, List.getElem?_map]
  cases l[i]? <;> rfl
theorem rc_new {l : List RcC} (hI : RcI l) : stH (rcH l) ((l.length : Int) + 1) = none := by
  refine stH_end fun i hi => ?_
  rw [rcH_get]
  have hi' : i < l.length := by simpa [rcH] using hi
  rw [hI i hi']; omega
theorem rc_at {l : List RcC} (hI : RcI l) {i : Nat} (hi : i < l.length) : findM [.i] true (.agg [.int .i64 ((i : Int) + 1)]) (hk (rcH l)) = some (some i) := by
  have hs := stH_first (m := rcH l) (a := (i : Int) + 1) (k := i) (by simpa [rcH] using hi) (fun j hj => by rw [rcH_get, hI j (by omega)]; omega) (by rw [rcH_get, hI i hi])
  obtain ⟨j, h1, h2, _, h4⟩ := look_some hs
  have h1' : j < l.length := by simpa [rcH] using h1
  have e : (rcH l).getD j default = (rcH l).getD i default := by simp only [List.getD, h4, Option.getD_some]
  rw [rcH_get, rcH_get] at e
  have e2 := congrArg HdC.h e
  rw [hI j h1', hI i hi] at e2
  have : j = i := by omega
  rw [this] at h2; exact h2
theorem rv_get (l : List RcC) (i : Nat) (h : i < l.length) : (rv l).getD i .undef = .agg (l.getD i default).cs := by simp [rv, h]
def hd0 (h t : Int) : HdC := ⟨h, t, hI R0, by rw [hI_len, R0_len]⟩
theorem hd0_rt (h t : Int) : (hd0 h t).rt = hcs R0 := by simp [HdC.rt, hd0, hI, byC]
theorem hk_snoc (l : List RcC) (q : RcC) : hk (rcH (l ++ [q])) = hk (rcH l) ++ [.agg [.int .i64 q.x.h]] := by simp [hk, rcH, markK]
theorem rv_snoc (l : List RcC) (q : RcC) : rv (l ++ [q]) = rv l ++ [.agg q.cs] := by simp [rv]
theorem mkR_snoc (l : List RcC) (q : RcC) : mkR (l ++ [q]) = mkR l ++ [[.int .i64 q.x.h]] := by simp [mkR]
theorem mkC_snoc (l : List RcC) (q : RcC) : mkC (l ++ [q]) = .sl (some 88) 1 (mkR l ++ [[.int .i64 q.x.h]]) := by rw [mkC_ne (by simp), mkR_snoc]
end Go.Proofs.YtmmmbmljompamaaGreatDoor

namespace Go.Proofs.YtmmmbmljompamaaGreatDoor
set_option linter.all false
open Go.RowKit
set_option maxRecDepth 100000
abbrev LfC.cs (x : LfC) : List AV := [.str x.k, .str x.v, .int .i64 x.i, .sl none 32 (x.p.map hcs)]
def lfs (l : List LfC) : List (List AV) := l.map LfC.cs
abbrev PfC.cs (p : PfC) : List AV := [.int .i64 p.c, .sl none 4 (lfs p.l)]
theorem spl_app : ∀ (a b vs : List AV) (i : Nat), splice (a ++ b) (a.length + i) vs = a ++ splice b i vs
  | [], b, vs, i => by simp
  | c :: a, b, vs, i => by
    rw [List.length_cons, show a.length + 1 + i = (a.length + i) + 1 by omega, List.cons_append, sp_s, spl_app a b vs i, List.cons_append]
theorem spl_pre : ∀ (a b vs : List AV), a.length = vs.length → splice (a ++ b) 0 vs = vs ++ b
  | [], b, [], _ => by simp [sp_0n]
  | c :: a, b, v :: vs, h => by
    rw [List.cons_append, sp_0, spl_pre a b vs (by simpa using h), List.cons_append]
end Go.Proofs.YtmmmbmljompamaaGreatDoor

namespace Go.Proofs.YtmmmbmljompamaaGreatDoor
set_option linter.all false
open Go.RowKit
set_option maxRecDepth 100000
theorem sxCtc {A B : Prop} (h : B) (e : A = B := by (simp (disch := omega) only [*, ↓Ed, Eu, ↓reduceIte, reduceCtorEq, Nat.reduceAdd, Nat.reduceEqDiff, Nat.reduceLT, Nat.reduceLeDiff, Int.reduceToNat, Int.reduceEq, Int.reduceLT, Int.reduceLE, w64, List.length_append, List.length_map, List.length_cons, List.length_nil, Int.reduceAdd, Nat.zero_add, Nat.mul_one]; first | done | rfl)) : A := e ▸ h
set_option maxHeartbeats 4000000 in
theorem t_pKeep (p m s : Nat) (hpm : ¬ p = m ∧ ¬ m = p) (hps : ¬ p = s ∧ ¬ s = p) (hms : ¬ m = s ∧ ¬ s = m) (l : List RcC) (hI : RcI l) (hl : l.length ≤ 1000) (t : Int) (ht : 0 ≤ t ∧ t ≤ 1099511627776) :
    CT Tryz.prog 20 [.ptr p 0, .int .i64 ((l.length : Int) + 1), .int .i64 t, .ptr s 0] (lk [(p, [.mapv m, mkC l]), (m, [mpR l]), (s, [.nils 118 2])])
      (fun r o => ∃ b : Nat, (¬ b = s ∧ ¬ s = b) ∧ r = .int .i64 0 ∧ o = lk [(p, [.mapv m, mkC (l ++ [⟨hd0 ((l.length : Int) + 1) t, b⟩])]), (m, [mpR (l ++ [⟨hd0 ((l.length : Int) + 1) t, b⟩])]), (s, [.nils 118 2])]) := by
  have hL := t_pLast p l hI hl (.mapv m)
  have hR := t_sRoot0 s
  have hC := t_sCopy0 s
  have hf := look_none (rc_new hI)
  have f1 : Fact (decide ((l.length : Int) + 1 < 1) = false) := by simp only [Fact, Bool.not_eq_true', Bool.not_eq_false', decide_eq_true_eq, decide_eq_false_iff_not]; omega
  have f2 : Fact (decide (1099511627776 < (l.length : Int) + 1) = false) := by simp only [Fact, Bool.not_eq_true', Bool.not_eq_false', decide_eq_true_eq, decide_eq_false_iff_not]; omega
  have f3 : Fact (decide (t < 0) = false) := by simp only [Fact, Bool.not_eq_true', Bool.not_eq_false', decide_eq_true_eq, decide_eq_false_iff_not]; omega
  have f4 : Fact (decide (1099511627776 < t) = false) := by simp only [Fact, Bool.not_eq_true', Bool.not_eq_false', decide_eq_true_eq, decide_eq_false_iff_not]; omega
  have f5 : Fact (decide ((l.length : Int) + 1 ≤ l.length) = false) := by simp only [Fact, Bool.not_eq_true', Bool.not_eq_false', decide_eq_true_eq, decide_eq_false_iff_not]; omega
  obtain ⟨z1, z2, z3, z4⟩ := hz_rules R0_len
  have hrt := hd0_rt ((l.length : Int) + 1) t
  have hh0 : (hd0 ((l.length : Int) + 1) t).h = (l.length : Int) + 1 := rfl
  have ht0 : (hd0 ((l.length : Int) + 1) t).t = t := rfl
  have hks := fun b => hk_snoc l ⟨hd0 ((l.length : Int) + 1) t, b⟩
  have hrs := fun b => rv_snoc l ⟨hd0 ((l.length : Int) + 1) t, b⟩
  have hms' := fun b => mkC_snoc l ⟨hd0 ((l.length : Int) + 1) t, b⟩
  simp only [RcC.cs, HdC.cs, hrt, hh0, ht0] at hrs
  simp only [hh0] at hks hms'
  refine okt_past_Past_Keep _ _ _ (by simp) ?_
  clear hI
  generalize hcs R0 = Z at *
  have hsp := spl_pre z32 [.nilp] Z (by rw [z4]; rfl)
  simp only [z32, List.cons_append, List.nil_append] at hsp
  have hsq : ∀ b : Nat, splice (Z ++ [.nilp]) 32 [.ptr b 0] = Z ++ [.ptr b 0] := fun b => by
    have := spl_app Z [.nilp] [.ptr b 0] 0
    rw [z4] at this
    exact this
  have hmm : mkC l = .nils 88 1 ∧ mkR l = [] ∨ mkC l = .sl (some 88) 1 (mkR l) := by
    cases l with
    | nil => exact .inl ⟨rfl, rfl⟩
    | cons q l => exact .inr rfl
  have hmr := mkR_len l
  have hmx : 1000000 ≤ maxLen := by unfold maxLen; decide
  rcases hmm with ⟨hmk, hmr0⟩ | hmk
  all_goals rw [hmk] at hL ⊢
  all_goals simp (disch := omega) only [c_past_Past_Keep, ↓Ed, Eu, ↓reduceIte, reduceCtorEq, Nat.reduceAdd, Nat.reduceEqDiff, Nat.reduceLT, Nat.reduceLeDiff, Int.reduceToNat, Int.reduceEq, Int.reduceLT, Int.reduceLE, w64, List.length_append, List.length_map, List.length_cons, List.length_nil, Int.reduceAdd, Nat.zero_add, Nat.mul_one]
  all_goals repeat' ((first | refine c1 (hL) ?_ | refine c1 (hR) ?_ | (refine CallO_exr hC (lk_sub1 (by first | ((repeat (first | exact lk_hd _ _ _ | (refine lk_tl ?_ ?_; (focus (first | assumption | (simp only [*, not_false_eq_true]; done)))))); done) | fail)) (fun bc hbc _ => ?_)) | refine NewB_intro0 (fun b => ?_) | (refine NewB_intro (fun b hb => ?_); simp only [ln_cons2, ln_nil, and_true] at hb) | (with_reducible apply wA; focus exact OM_a) | ((first | refine gW_sp ?_ | refine condW_sp ?_ | refine pickW_sp ?_); (try refine Sp_n ?_); (first | refine wT ?_ | refine wF ?_ | refine wL (fun h h' => ?_) (fun h h' => ?_) | refine wE (fun h h' => ?_) (fun h h' => ?_) | refine Sp_split (fun h => ?_) (fun h => ?_)) <;> (try (exfalso; omega))) | refine TreeW_intro (by rfl) ?_ | refine TreeW_all ?_ | refine upQ_intro ?_ | refine Two_intro ?_ ?_ | exact wZ | fail) <;> (try refine sxCtc ?_) <;> (try exact True.intro))
  all_goals first
  | exact ro_exr bc (by simp [LeL, lk, resR, arR, List.range_succ, *]) hbc (dom_keys rfl)
  | (simp only [List.length_nil, List.length_append, List.length_cons, *]; omega)
end Go.Proofs.YtmmmbmljompamaaGreatDoor

namespace Go.Proofs.YtmmmbmljompamaaGreatDoor
set_option linter.all false
open Go.RowKit
set_option maxRecDepth 100000
theorem sxCtd {A B : Prop} (h : B) (e : A = B := by (simp (disch := omega) only [*, ↓Ed, Eu, ↓reduceIte, reduceCtorEq, Nat.reduceAdd, Nat.reduceEqDiff, Nat.reduceLT, Nat.reduceLeDiff, Int.reduceToNat, Int.reduceEq, Int.reduceLT, Int.reduceLE, w64, List.length_append, List.length_map, List.length_cons, List.length_nil, Int.reduceAdd, Nat.zero_add, Nat.mul_one]; first | done | rfl)) : A := e ▸ h
set_option maxHeartbeats 4000000 in
theorem t_pHeader (p m : Nat) (hpm : ¬ p = m ∧ ¬ m = p) (l : List RcC) (hI : RcI l) (i : Nat) (hi : i < l.length) (v : AV) :
    CT Tryz.prog 23 [.ptr p 0, .int .i64 ((i : Int) + 1)] (lk [(p, [.mapv m, v]), (m, [mpR l])]) (fun r o => r = .tup [.agg (l.getD i default).x.cs, .bool true] ∧ o = lk [(p, [.mapv m, v]), (m, [mpR l])]) := by
  have hf := rc_at hI hi
  have hg := rv_get l i hi
  refine okt_past_Past_Header _ _ _ (by simp) ?_
  obtain ⟨⟨x, b0⟩, hx⟩ : ∃ q, l.getD i default = q := ⟨_, rfl⟩
  rw [hx] at hg ⊢
  simp only [RcC.cs, HdC.cs, List.cons_append] at hg ⊢
  have r1 := rt_len x
  have r2 := rt_so x
  have r3 := rt_take x
  have r4 : splice z32 0 x.rt = x.rt := splice_whole z32 _ (by rw [r1]; rfl)
  have hsp := spl_pre z32 [.nilp] x.rt (by rw [r1]; rfl)
  simp only [z32, List.cons_append, List.nil_append] at hsp r4
  have r5 : (x.rt ++ [AV.ptr b0 0]).map AV.store = x.rt ++ [AV.ptr b0 0] := by rw [List.map_append, r2]; rfl
  have r6 : (x.rt ++ [AV.ptr b0 0]).take 32 = x.rt := by rw [List.take_append_of_le_length (by omega), r3]
  have r7 : splice [AV.int .u8 0, AV.int .u8 0, AV.int .u8 0, AV.int .u8 0, AV.int .u8 0, AV.int .u8 0, AV.int .u8 0, AV.int .u8 0, AV.int .u8 0, AV.int .u8 0, AV.int .u8 0, AV.int .u8 0, AV.int .u8 0, AV.int .u8 0, AV.int .u8 0, AV.int .u8 0, AV.int .u8 0, AV.int .u8 0, AV.int .u8 0, AV.int .u8 0, AV.int .u8 0, AV.int .u8 0, AV.int .u8 0, AV.int .u8 0, AV.int .u8 0, AV.int .u8 0, AV.int .u8 0, AV.int .u8 0, AV.int .u8 0, AV.int .u8 0, AV.int .u8 0, AV.int .u8 0, AV.nilp] 0 (x.rt ++ [AV.ptr b0 0]) = x.rt ++ [AV.ptr b0 0] := splice_whole _ _ (by rw [List.length_append, r1]; rfl)
  obtain ⟨xh, xt, xr, xn⟩ := x
  simp only at *
  generalize HdC.rt _ = Z at *
  simp (disch := omega) only [c_past_Past_Header, ↓Ed, Eu, ↓reduceIte, reduceCtorEq, Nat.reduceAdd, Nat.reduceEqDiff, Nat.reduceLT, Nat.reduceLeDiff, Int.reduceToNat, Int.reduceEq, Int.reduceLT, Int.reduceLE, w64, List.length_append, List.length_map, List.length_cons, List.length_nil, Int.reduceAdd, Nat.zero_add, Nat.mul_one]
  repeat' ((first | refine NewB_intro0 (fun b => ?_) | (refine NewB_intro (fun b hb => ?_); simp only [ln_cons2, ln_nil, and_true] at hb) | (with_reducible apply wA; focus exact OM_a) | ((first | refine gW_sp ?_ | refine condW_sp ?_ | refine pickW_sp ?_); (try refine Sp_n ?_); (first | refine wT ?_ | refine wF ?_ | refine wL (fun h h' => ?_) (fun h h' => ?_) | refine wE (fun h h' => ?_) (fun h h' => ?_) | refine Sp_split (fun h => ?_) (fun h => ?_)) <;> (try (exfalso; omega))) | refine TreeW_intro (by rfl) ?_ | refine TreeW_all ?_ | refine upQ_intro ?_ | refine Two_intro ?_ ?_ | exact wZ | fail) <;> (try refine sxCtd ?_) <;> (try exact True.intro))
  all_goals exact ro_mk (by simp [LeL, lk, r_two, rl_cons, rl_nil, arR, al_agg, al_bool, AV.alias, view, l_all, *]) (sameD _)
end Go.Proofs.YtmmmbmljompamaaGreatDoor

namespace Go.Proofs.YtmmmbmljompamaaGreatDoor
set_option linter.all false
open Go.RowKit
set_option maxRecDepth 100000
theorem set_byC (B : List UInt8) (k : Nat) (hk : k < B.length) : ∃ f : Int → List UInt8, ∀ z, (f z).length = B.length ∧ splice (B.map byC) k [.int .u8 (IntKind.wrap .u8 z)] = (f z).map byC := by
  refine ⟨fun z => B.set k (UInt8.ofNat (IntKind.wrap .u8 z).toNat), fun z => ⟨by simp, ?_⟩⟩
  have e : AV.int .u8 (IntKind.wrap .u8 z) = byC (UInt8.ofNat (IntKind.wrap .u8 z).toNat) := by
    have h : IntKind.wrap .u8 z = z % 256 := rfl
    have h2 : ((UInt8.ofNat (z % 256).toNat).toNat : Int) = z % 256 := by
      simp only [UInt8.toNat_ofNat']
      omega
    unfold byC
    rw [h, h2]
  rw [e]
  exact arr_stoB B k _ hk
theorem sxCte {A B : Prop} (h : B) (e : A = B := by (simp (disch := omega) only [*, ↓Ed, Eu, ↓reduceIte, reduceCtorEq, Nat.reduceAdd, Nat.reduceEqDiff, Nat.reduceLT, Nat.reduceLeDiff, Int.reduceToNat, Int.reduceEq, Int.reduceLT, Int.reduceLE, w64, List.length_append, List.length_map, List.length_cons, List.length_nil, Int.reduceAdd, Nat.zero_add, Nat.mul_one]; first | done | rfl)) : A := e ▸ h
theorem t_fPut (y : List UInt8) (hy : y.length ≤ 1000000) : CT Tryz.prog 22 [.str y] (lk []) (fun r o => ∃ z : List UInt8, y.length ≤ z.length ∧ r = .tup [.str z, .int .i64 0] ∧ o = lk []) := by
  have hS := p_fsum y (by omega)
  have hs4 : (sum4 y).length ≤ 4 := by unfold sum4; rw [List.length_take]; omega
  refine okt_frame_Put _ _ _ (by simp) ?_
  have f1 : Fact (decide (2147483647 < (y.length : Int)) = false) := by simp only [Fact, Bool.not_eq_true', Bool.not_eq_false', decide_eq_true_eq, decide_eq_false_iff_not]; omega
  simp (disch := omega) only [c_frame_Put, ↓Ed, Eu, ↓reduceIte, reduceCtorEq, Nat.reduceAdd, Nat.reduceEqDiff, Nat.reduceLT, Nat.reduceLeDiff, Int.reduceToNat, Int.reduceEq, Int.reduceLT, Int.reduceLE, w64, List.length_append, List.length_map, List.length_cons, List.length_nil, Int.reduceAdd, Nat.zero_add, Nat.mul_one]
  repeat' ((first | refine NewB_intro0 (fun b => ?_) | (refine NewB_intro (fun b hb => ?_); simp only [ln_cons2, ln_nil, and_true] at hb) | (with_reducible apply wA; focus exact OM_a) | ((first | refine gW_sp ?_ | refine condW_sp ?_ | refine pickW_sp ?_); (try refine Sp_n ?_); (first | refine wT ?_ | refine wF ?_ | refine wL (fun h h' => ?_) (fun h h' => ?_) | refine wE (fun h h' => ?_) (fun h h' => ?_) | refine Sp_split (fun h => ?_) (fun h => ?_)) <;> (try (exfalso; omega))) | refine TreeW_intro (by rfl) ?_ | refine TreeW_all ?_ | refine upQ_intro ?_ | refine Two_intro ?_ ?_ | exact wZ | fail) <;> (try refine sxCte ?_) <;> (try exact True.intro))
  refine wpx_loop (fun x : Nat × List UInt8 => ⟨lk [(0, .str y), (4, .ptr b 0), (9, .int .i64 (x.1 : Int))], lk [(b, x.2.map byC)]⟩) (fun x => x.1 ≤ 4 ∧ x.2.length = 4) (fun x => 4 - x.1) (0, [0, 0, 0, 0]) ⟨by simp, rfl⟩ (Le_lit (by simp [LeL, lk, byC])) ?_
  rintro ⟨k, B⟩ ⟨h1, h2⟩
  simp only at h1 h2
  by_cases hk : k < 4
  rotate_left
  · obtain rfl : k = 4 := by omega
    have f2 : Fact (decide (((4 : Nat) : Int) < 4) = false) := rfl
    have htk : ((B.map byC).drop 0).take 4 = B.map byC := by rw [List.drop_zero, List.take_of_length_le (by simp; omega)]
    simp (disch := omega) only [↓Ed, Eu, ↓reduceIte, reduceCtorEq, Nat.reduceAdd, Nat.reduceEqDiff, Nat.reduceLT, Nat.reduceLeDiff, Int.reduceToNat, Int.reduceEq, Int.reduceLT, Int.reduceLE, w64, List.length_append, List.length_map, List.length_cons, List.length_nil, Int.reduceAdd, Nat.zero_add, Nat.mul_one]
    repeat' ((first | refine CallO_pure (hS) ?_ | refine CallW_intro (hS) ?_ | refine BytesO_intro B htk h2 ?_ | refine BytesO_intro B (by rw [List.take_of_length_le (by simp; omega)]) h2 ?_ | refine NewB_intro0 (fun b => ?_) | (refine NewB_intro (fun b hb => ?_); simp only [ln_cons2, ln_nil, and_true] at hb) | (with_reducible apply wA; focus exact OM_a) | ((first | refine gW_sp ?_ | refine condW_sp ?_ | refine pickW_sp ?_); (try refine Sp_n ?_); (first | refine wT ?_ | refine wF ?_ | refine wL (fun h h' => ?_) (fun h h' => ?_) | refine wE (fun h h' => ?_) (fun h h' => ?_) | refine Sp_split (fun h => ?_) (fun h => ?_)) <;> (try (exfalso; omega))) | refine TreeW_intro (by rfl) ?_ | refine TreeW_all ?_ | refine upQ_intro ?_ | refine Two_intro ?_ ?_ | exact wZ | fail) <;> (try refine sxCte ?_) <;> (try exact True.intro))
    all_goals exact ro_exr (B ++ sum4 y ++ y) (by simp [LeL, lk, r_two, rl_cons, rl_nil, arR, al_int, al_str, AV.alias]) (by simp; omega) (dom_keys rfl)
  · have f2 : Fact (decide ((k : Int) < 4) = true) := by simp only [Fact, Bool.not_eq_true', Bool.not_eq_false', decide_eq_true_eq, decide_eq_false_iff_not]; omega
    obtain ⟨f, hf⟩ := set_byC B k (by omega)
    have hf2 := fun z => (hf z).2
    have hBl : (B.map byC).length = 4 := by simp [h2]
    have e1 : (k : Int).toNat * 1 = k := by omega
    have e2 : (k : Int).toNat = k := by omega
    simp (disch := omega) only [↓Ed, Eu, ↓reduceIte, reduceCtorEq, Nat.reduceAdd, Nat.reduceEqDiff, Nat.reduceLT, Nat.reduceLeDiff, Int.reduceToNat, Int.reduceEq, Int.reduceLT, Int.reduceLE, w64, List.length_append, List.length_map, List.length_cons, List.length_nil, Int.reduceAdd, Nat.zero_add, Nat.mul_one]
    repeat' ((first | refine NewB_intro0 (fun b => ?_) | (refine NewB_intro (fun b hb => ?_); simp only [ln_cons2, ln_nil, and_true] at hb) | (with_reducible apply wA; focus exact OM_a) | ((first | refine gW_sp ?_ | refine condW_sp ?_ | refine pickW_sp ?_); (try refine Sp_n ?_); (first | refine wT ?_ | refine wF ?_ | refine wL (fun h h' => ?_) (fun h h' => ?_) | refine wE (fun h h' => ?_) (fun h h' => ?_) | refine Sp_split (fun h => ?_) (fun h => ?_)) <;> (try (exfalso; omega))) | refine TreeW_intro (by rfl) ?_ | refine TreeW_all ?_ | refine upQ_intro ?_ | refine Two_intro ?_ ?_ | exact wZ | fail) <;> (try refine sxCte ?_) <;> (try exact True.intro))
    all_goals exact Round_lit (k + 1, f ((IntKind.wrap .u64 (y.length : Int)).fdiv (2 ^ min (8 * (3 - (k : Int))).toNat (IntKind.bits .u64)))) ⟨Le_lit (by simp [LeL, lk]), ⟨by simp only; omega, by simp only; rw [(hf _).1, h2]⟩, by simp only; omega⟩
end Go.Proofs.YtmmmbmljompamaaGreatDoor

namespace Go.Proofs.YtmmmbmljompamaaGreatDoor
set_option linter.all false
open Go.RowKit
set_option maxRecDepth 100000
theorem sxCtf {A B : Prop} (h : B) (e : A = B := by (simp (disch := omega) only [*, ↓Ed, Eu, ↓reduceIte, reduceCtorEq, Nat.reduceAdd, Nat.reduceEqDiff, Nat.reduceLT, Nat.reduceLeDiff, Int.reduceToNat, Int.reduceEq, Int.reduceLT, Int.reduceLE, w64, List.length_append, List.length_map, List.length_cons, List.length_nil, Int.reduceAdd, Nat.zero_add, Nat.mul_one]; first | done | rfl)) : A := e ▸ h
theorem p_eCheck0 : CP Tryz.prog 28 [.sl none 6 []] (.int .i64 0) := by
  refine ok_ends_Check _ _ (by simp) ?_
  have f1 : Fact (decide (6 < ((0 : Nat) : Int)) = false) := rfl
  simp (disch := omega) only [c_ends_Check, ↓Ed, Eu, ↓reduceIte, reduceCtorEq, Nat.reduceAdd, Nat.reduceEqDiff, Nat.reduceLT, Nat.reduceLeDiff, Int.reduceToNat, Int.reduceEq, Int.reduceLT, Int.reduceLE, w64, List.length_append, List.length_map, List.length_cons, List.length_nil, Int.reduceAdd, Nat.zero_add, Nat.mul_one]
  repeat' ((first | refine NewB_intro0 (fun b => ?_) | (refine NewB_intro (fun b hb => ?_); simp only [ln_cons2, ln_nil, and_true] at hb) | (with_reducible apply wA; focus exact OM_a) | ((first | refine gW_sp ?_ | refine condW_sp ?_ | refine pickW_sp ?_); (try refine Sp_n ?_); (first | refine wT ?_ | refine wF ?_ | refine wL (fun h h' => ?_) (fun h h' => ?_) | refine wE (fun h h' => ?_) (fun h h' => ?_) | refine Sp_split (fun h => ?_) (fun h => ?_)) <;> (try (exfalso; omega))) | refine TreeW_intro (by rfl) ?_ | refine TreeW_all ?_ | refine upQ_intro ?_ | refine Two_intro ?_ ?_ | exact wZ | fail) <;> (try refine sxCtf ?_) <;> (try exact True.intro))
  refine wpx_loop (fun _ : Nat => ⟨lk [(10, .sl none 6 []), (11, .int .i64 0), (12, .int .i64 0)], lk []⟩) (fun _ => True) (fun _ => 0) 0 trivial (Le_lit (by simp [LeL, lk])) ?_
  intro k _
  simp (disch := omega) only [↓Ed, Eu, ↓reduceIte, reduceCtorEq, Nat.reduceAdd, Nat.reduceEqDiff, Nat.reduceLT, Nat.reduceLeDiff, Int.reduceToNat, Int.reduceEq, Int.reduceLT, Int.reduceLE, w64, List.length_append, List.length_map, List.length_cons, List.length_nil, Int.reduceAdd, Nat.zero_add, Nat.mul_one]
  repeat' ((first | refine NewB_intro0 (fun b => ?_) | (refine NewB_intro (fun b hb => ?_); simp only [ln_cons2, ln_nil, and_true] at hb) | (with_reducible apply wA; focus exact OM_a) | ((first | refine gW_sp ?_ | refine condW_sp ?_ | refine pickW_sp ?_); (try refine Sp_n ?_); (first | refine wT ?_ | refine wF ?_ | refine wL (fun h h' => ?_) (fun h h' => ?_) | refine wE (fun h h' => ?_) (fun h h' => ?_) | refine Sp_split (fun h => ?_) (fun h => ?_)) <;> (try (exfalso; omega))) | refine TreeW_intro (by rfl) ?_ | refine TreeW_all ?_ | refine upQ_intro ?_ | refine Two_intro ?_ ?_ | exact wZ | fail) <;> (try refine sxCtf ?_) <;> (try exact True.intro))
theorem t_eInit0 (s : Nat) : CT Tryz.prog 19 [.ptr s 0, .sl none 6 []] (lk [(s, [.nils 118 2])]) (fun r o => r = .int .i64 0 ∧ o = lk [(s, [.nils 118 2])]) := by
  refine okt_ends_Init _ _ _ (by simp) ?_
  simp (disch := omega) only [c_ends_Init, ↓Ed, Eu, ↓reduceIte, reduceCtorEq, Nat.reduceAdd, Nat.reduceEqDiff, Nat.reduceLT, Nat.reduceLeDiff, Int.reduceToNat, Int.reduceEq, Int.reduceLT, Int.reduceLE, w64, List.length_append, List.length_map, List.length_cons, List.length_nil, Int.reduceAdd, Nat.zero_add, Nat.mul_one]
  repeat' ((first | refine CallO_pure (p_eCheck0) ?_ | refine NewB_intro0 (fun b => ?_) | (refine NewB_intro (fun b hb => ?_); simp only [ln_cons2, ln_nil, and_true] at hb) | (with_reducible apply wA; focus exact OM_a) | ((first | refine gW_sp ?_ | refine condW_sp ?_ | refine pickW_sp ?_); (try refine Sp_n ?_); (first | refine wT ?_ | refine wF ?_ | refine wL (fun h h' => ?_) (fun h h' => ?_) | refine wE (fun h h' => ?_) (fun h h' => ?_) | refine Sp_split (fun h => ?_) (fun h => ?_)) <;> (try (exfalso; omega))) | refine TreeW_intro (by rfl) ?_ | refine TreeW_all ?_ | refine upQ_intro ?_ | refine Two_intro ?_ ?_ | exact wZ | fail) <;> (try refine sxCtf ?_) <;> (try exact True.intro))
  refine wpx_loop (fun _ : Nat => ⟨lk [(14, .sl none 6 []), (15, .int .i64 0), (16, .int .i64 0)], lk [(s, [.nils 118 2])]⟩) (fun _ => True) (fun _ => 0) 0 trivial (Le_lit (by simp [LeL, lk])) ?_
  intro k _
  simp (disch := omega) only [↓Ed, Eu, ↓reduceIte, reduceCtorEq, Nat.reduceAdd, Nat.reduceEqDiff, Nat.reduceLT, Nat.reduceLeDiff, Int.reduceToNat, Int.reduceEq, Int.reduceLT, Int.reduceLE, w64, List.length_append, List.length_map, List.length_cons, List.length_nil, Int.reduceAdd, Nat.zero_add, Nat.mul_one]
  repeat' ((first | refine NewB_intro0 (fun b => ?_) | (refine NewB_intro (fun b hb => ?_); simp only [ln_cons2, ln_nil, and_true] at hb) | (with_reducible apply wA; focus exact OM_a) | ((first | refine gW_sp ?_ | refine condW_sp ?_ | refine pickW_sp ?_); (try refine Sp_n ?_); (first | refine wT ?_ | refine wF ?_ | refine wL (fun h h' => ?_) (fun h h' => ?_) | refine wE (fun h h' => ?_) (fun h h' => ?_) | refine Sp_split (fun h => ?_) (fun h => ?_)) <;> (try (exfalso; omega))) | refine TreeW_intro (by rfl) ?_ | refine TreeW_all ?_ | refine upQ_intro ?_ | refine Two_intro ?_ ?_ | exact wZ | fail) <;> (try refine sxCtf ?_) <;> (try exact True.intro))
  all_goals exact ro_mk (by simp [LeL, lk, resR, arR, *]) (sameD _)
theorem p_limited : CP Tryz.prog 27 [.agg [.int .i64 1073741824, .int .i64 1048576, .int .i64 64]] (.bool true) := by
  refine ok_chain_limited _ _ (by simp) ?_
  simp (disch := omega) only [c_chain_limited, ↓Ed, Eu, ↓reduceIte, reduceCtorEq, Nat.reduceAdd, Nat.reduceEqDiff, Nat.reduceLT, Nat.reduceLeDiff, Int.reduceToNat, Int.reduceEq, Int.reduceLT, Int.reduceLE, w64, List.length_append, List.length_map, List.length_cons, List.length_nil, Int.reduceAdd, Nat.zero_add, Nat.mul_one]
  repeat' ((first | refine NewB_intro0 (fun b => ?_) | (refine NewB_intro (fun b hb => ?_); simp only [ln_cons2, ln_nil, and_true] at hb) | (with_reducible apply wA; focus exact OM_a) | ((first | refine gW_sp ?_ | refine condW_sp ?_ | refine pickW_sp ?_); (try refine Sp_n ?_); (first | refine wT ?_ | refine wF ?_ | refine wL (fun h h' => ?_) (fun h h' => ?_) | refine wE (fun h h' => ?_) (fun h h' => ?_) | refine Sp_split (fun h => ?_) (fun h => ?_)) <;> (try (exfalso; omega))) | refine TreeW_intro (by rfl) ?_ | refine TreeW_all ?_ | refine upQ_intro ?_ | refine Two_intro ?_ ?_ | exact wZ | fail) <;> (try refine sxCtf ?_) <;> (try exact True.intro))
  refine wpx_loop (fun k : Nat => ⟨lk [(11, .agg [.int .i64 1073741824, .int .i64 1048576, .int .i64 64]), (12, .int .i64 (k : Int))], lk []⟩) (fun k => k ≤ 3) (fun k => 3 - k) 0 (by omega) (Le_lit (by simp [LeL, lk])) ?_
  intro k hk
  rcases (show k = 0 ∨ k = 1 ∨ k = 2 ∨ k = 3 by omega) with rfl | rfl | rfl | rfl
  all_goals simp (disch := omega) only [k0, k1, k2, k3, ↓Ed, Eu, ↓reduceIte, reduceCtorEq, Nat.reduceAdd, Nat.reduceEqDiff, Nat.reduceLT, Nat.reduceLeDiff, Int.reduceToNat, Int.reduceEq, Int.reduceLT, Int.reduceLE, w64, List.length_append, List.length_map, List.length_cons, List.length_nil, Int.reduceAdd, Nat.zero_add, Nat.mul_one]
  all_goals repeat' ((first | refine NewB_intro0 (fun b => ?_) | (refine NewB_intro (fun b hb => ?_); simp only [ln_cons2, ln_nil, and_true] at hb) | (with_reducible apply wA; focus exact OM_a) | ((first | refine gW_sp ?_ | refine condW_sp ?_ | refine pickW_sp ?_); (try refine Sp_n ?_); (first | refine wT ?_ | refine wF ?_ | refine wL (fun h h' => ?_) (fun h h' => ?_) | refine wE (fun h h' => ?_) (fun h h' => ?_) | refine Sp_split (fun h => ?_) (fun h => ?_)) <;> (try (exfalso; omega))) | refine TreeW_intro (by rfl) ?_ | refine TreeW_all ?_ | refine upQ_intro ?_ | refine Two_intro ?_ ?_ | exact wZ | fail) <;> (try refine sxCtf ?_) <;> (try exact True.intro))
  · exact Round_lit 1 ⟨Le_lit (by simp [LeL, lk]), by omega, by omega⟩
  · exact Round_lit 2 ⟨Le_lit (by simp [LeL, lk]), by omega, by omega⟩
  · exact Round_lit 3 ⟨Le_lit (by simp [LeL, lk]), by omega, by omega⟩
abbrev alN : List UInt8 := [97, 108, 112, 104, 97]
abbrev plA : AV := .agg [.str alN, .int .i64 1073741824, .int .i64 1048576, .int .i64 64, .nils 81 6]
theorem p_pl19 : CP Tryz.prog 6 [] plA := by
  refine ok_liglaw19_Plain _ _ (by simp) ?_
  simp (disch := omega) only [c_liglaw19_Plain, ↓Ed, Eu, ↓reduceIte, reduceCtorEq, Nat.reduceAdd, Nat.reduceEqDiff, Nat.reduceLT, Nat.reduceLeDiff, Int.reduceToNat, Int.reduceEq, Int.reduceLT, Int.reduceLE, w64, List.length_append, List.length_map, List.length_cons, List.length_nil, Int.reduceAdd, Nat.zero_add, Nat.mul_one]
  repeat' ((first | refine NewB_intro0 (fun b => ?_) | (refine NewB_intro (fun b hb => ?_); simp only [ln_cons2, ln_nil, and_true] at hb) | (with_reducible apply wA; focus exact OM_a) | ((first | refine gW_sp ?_ | refine condW_sp ?_ | refine pickW_sp ?_); (try refine Sp_n ?_); (first | refine wT ?_ | refine wF ?_ | refine wL (fun h h' => ?_) (fun h h' => ?_) | refine wE (fun h h' => ?_) (fun h h' => ?_) | refine Sp_split (fun h => ?_) (fun h => ?_)) <;> (try (exfalso; omega))) | refine TreeW_intro (by rfl) ?_ | refine TreeW_all ?_ | refine upQ_intro ?_ | refine Two_intro ?_ ?_ | exact wZ | fail) <;> (try refine sxCtf ?_) <;> (try exact True.intro))
theorem al_name : nameP alN = true := by
  refine nameP_t ⟨by simp, by simp, fun k hk => ?_⟩
  have hk' : k < 5 := hk
  rcases (show k = 0 ∨ k = 1 ∨ k = 2 ∨ k = 3 ∨ k = 4 by omega) with rfl | rfl | rfl | rfl | rfl
  all_goals simp [okAt]
theorem p_cCheck : CP Tryz.prog 15 [plA] (.int .i64 0) := by
  have hN := p_Name alN (by simp)
  rw [al_name] at hN
  refine ok_chain_Check _ _ (by simp) ?_
  simp (disch := omega) only [c_chain_Check, ↓Ed, Eu, ↓reduceIte, reduceCtorEq, Nat.reduceAdd, Nat.reduceEqDiff, Nat.reduceLT, Nat.reduceLeDiff, Int.reduceToNat, Int.reduceEq, Int.reduceLT, Int.reduceLE, w64, List.length_append, List.length_map, List.length_cons, List.length_nil, Int.reduceAdd, Nat.zero_add, Nat.mul_one]
  repeat' ((first | refine CallO_pure (hN) ?_ | refine CallO_pure (p_limited) ?_ | refine CallO_pure (p_eCheck0) ?_ | refine NewB_intro0 (fun b => ?_) | (refine NewB_intro (fun b hb => ?_); simp only [ln_cons2, ln_nil, and_true] at hb) | (with_reducible apply wA; focus exact OM_a) | ((first | refine gW_sp ?_ | refine condW_sp ?_ | refine pickW_sp ?_); (try refine Sp_n ?_); (first | refine wT ?_ | refine wF ?_ | refine wL (fun h h' => ?_) (fun h h' => ?_) | refine wE (fun h h' => ?_) (fun h h' => ?_) | refine Sp_split (fun h => ?_) (fun h => ?_)) <;> (try (exfalso; omega))) | refine TreeW_intro (by rfl) ?_ | refine TreeW_all ?_ | refine upQ_intro ?_ | refine Two_intro ?_ ?_ | exact wZ | fail) <;> (try refine sxCtf ?_) <;> (try exact True.intro))
theorem t_cNew1 : CT Tryz.prog 18 [] (lk []) (fun r o => ∃ q : Nat × Nat, (¬ q.1 = q.2 ∧ ¬ q.2 = q.1) ∧ r = .ptr q.1 0 ∧ o = lk [(q.1, [.mapv q.2]), (q.2, [.mp [] [] [] 0])]) := by
  refine okt_client_New _ _ _ (by simp) ?_
  simp (disch := omega) only [c_client_New, ↓Ed, Eu, ↓reduceIte, reduceCtorEq, Nat.reduceAdd, Nat.reduceEqDiff, Nat.reduceLT, Nat.reduceLeDiff, Int.reduceToNat, Int.reduceEq, Int.reduceLT, Int.reduceLE, w64, List.length_append, List.length_map, List.length_cons, List.length_nil, Int.reduceAdd, Nat.zero_add, Nat.mul_one]
  repeat' ((first | refine NewB_intro0 (fun b => ?_) | (refine NewB_intro (fun b hb => ?_); simp only [ln_cons2, ln_nil, and_true] at hb) | (with_reducible apply wA; focus exact OM_a) | ((first | refine gW_sp ?_ | refine condW_sp ?_ | refine pickW_sp ?_); (try refine Sp_n ?_); (first | refine wT ?_ | refine wF ?_ | refine wL (fun h h' => ?_) (fun h h' => ?_) | refine wE (fun h h' => ?_) (fun h h' => ?_) | refine Sp_split (fun h => ?_) (fun h => ?_)) <;> (try (exfalso; omega))) | refine TreeW_intro (by rfl) ?_ | refine TreeW_all ?_ | refine upQ_intro ?_ | refine Two_intro ?_ ?_ | exact wZ | fail) <;> (try refine sxCtf ?_) <;> (try exact True.intro))
  rename_i m
  exact ro_exr (b, m) (by simp [LeL, lk, resR, arR, *]) (by simp [*]) (fun b' cs h => by simp [lk] at h)
section
variable {d : Option Nat} {st : St} {K : St → Prop}
theorem cn_two {f : Nat} {vs : List AV} {w : List AV} {o2 : Nat × Nat → List (Nat × List AV)}
    (h : CT Tryz.prog f vs (lk []) (fun r o => ∃ q : Nat × Nat, (¬ q.1 = q.2 ∧ ¬ q.2 = q.1) ∧ r = .ptr q.1 0 ∧ o = lk (o2 q)))
    (ho : ∀ q, o2 q = [(q.1, [.mapv q.2]), (q.2, w)] ∨ ∃ z, o2 q = [(q.1, [.mapv q.2, z]), (q.2, w)])
    (hK : ∀ p m, (¬ p = m ∧ ¬ m = p) → st.o p = none → st.o m = none → KS (St.put ⟨st.t, ovr (o2 (p, m)) st.o⟩ d (.ptr p 0)) K) : CallN Tryz.prog f vs d st K := by
  refine CallN_exr h ?_
  rintro ⟨p, m⟩ hq hf
  simp only at hq
  rcases ho (p, m) with e | ⟨z, e⟩
  · exact hK p m hq (hf p [.mapv m] (by rw [e]; exact lk_hd _ _ _)) (hf m w (by rw [e]; exact lk_tl hq.2 (lk_hd _ _ _)))
  · exact hK p m hq (hf p [.mapv m, z] (by rw [e]; exact lk_hd _ _ _)) (hf m w (by rw [e]; exact lk_tl hq.2 (lk_hd _ _ _)))
end
abbrev chC (s p cl : Nat) (h t : Int) (ev rec : AV) : List AV := [.str alN, .int .i64 1073741824, .int .i64 1048576, .int .i64 64, .ptr s 0, .ptr p 0, .ptr cl 0, .int .i64 h, .int .i64 t, ev, rec]
abbrev chO (c s p m cl : Nat) (h t : Int) (ev rec : AV) (l : List RcC) : List (Nat × List AV) := [(c, chC s p cl h t ev rec), (p, [.mapv m, mkC l]), (m, [mpR l]), (s, [.nils 118 2])]
structure ChD (c s p m : Nat) : Prop where
  a : ¬ c = s ∧ ¬ s = c
  b : ¬ c = p ∧ ¬ p = c
  e : ¬ c = m ∧ ¬ m = c
  f : ¬ p = m ∧ ¬ m = p
  g : ¬ p = s ∧ ¬ s = p
  h : ¬ m = s ∧ ¬ s = m
set_option maxHeartbeats 4000000 in
theorem t_chNew : CT Tryz.prog 5 [plA] (lk []) (fun r o => ∃ q : Nat × Nat × Nat × Nat × Nat, ChD q.1 q.2.1 q.2.2.1 q.2.2.2.1 ∧ r = .tup [.ptr q.1 0, .int .i64 0] ∧
    o = lk (chO q.1 q.2.1 q.2.2.1 q.2.2.2.1 q.2.2.2.2 1 0 (.nils 100 13) (.nils 9 1) [])) := by
  refine okt_chain_New _ _ _ (by simp) ?_
  simp (disch := omega) only [c_chain_New, ↓Ed, Eu, ↓reduceIte, reduceCtorEq, Nat.reduceAdd, Nat.reduceEqDiff, Nat.reduceLT, Nat.reduceLeDiff, Int.reduceToNat, Int.reduceEq, Int.reduceLT, Int.reduceLE, w64, List.length_append, List.length_map, List.length_cons, List.length_nil, Int.reduceAdd, Nat.zero_add, Nat.mul_one]
  repeat' ((first | refine CallO_pure (p_cCheck) ?_ | refine CallN_new t_sNew ?_ | ((refine cn_two (w := [mpR []]) t_pNew (fun q => .inr ⟨_, rfl⟩) (fun p m hpm g1 g2 => ?_)) <;> (try simp only [ln_cons2, ln_nil, and_true] at g1 g2)) | ((refine cn_two (w := [.mp [] [] [] 0]) t_cNew1 (fun q => .inl rfl) (fun cl ml hcl g3 g4 => ?_)) <;> (try simp only [ln_cons2, ln_nil, and_true] at g3 g4)) | refine c1 (t_eInit0 _) ?_ | refine NewB_intro0 (fun b => ?_) | (refine NewB_intro (fun b hb => ?_); simp only [ln_cons2, ln_nil, and_true] at hb) | (with_reducible apply wA; focus exact OM_a) | ((first | refine gW_sp ?_ | refine condW_sp ?_ | refine pickW_sp ?_); (try refine Sp_n ?_); (first | refine wT ?_ | refine wF ?_ | refine wL (fun h h' => ?_) (fun h h' => ?_) | refine wE (fun h h' => ?_) (fun h h' => ?_) | refine Sp_split (fun h => ?_) (fun h => ?_)) <;> (try (exfalso; omega))) | refine TreeW_intro (by rfl) ?_ | refine TreeW_all ?_ | refine upQ_intro ?_ | refine Two_intro ?_ ?_ | exact wZ | fail) <;> (try refine sxCtf ?_) <;> (try exact True.intro))
  rename_i b1 s hs
  exact ro_exr (b, s, p, m, cl) (by simp [LeL, lk, r_two, rl_cons, rl_nil, arR, al_int, al_ptr, *]) ⟨by simp only [*, not_false_eq_true, and_self], by simp only [*, not_false_eq_true, and_self], by simp only [*, not_false_eq_true, and_self], hpm, by simp only [*, not_false_eq_true, and_self], by simp only [*, not_false_eq_true, and_self]⟩ (fun b' cs h => by simp [lk] at h)
end Go.Proofs.YtmmmbmljompamaaGreatDoor

namespace Go.Proofs.YtmmmbmljompamaaGreatDoor
set_option linter.all false
open Go.RowKit
set_option maxRecDepth 100000
section
variable (c s p m cl : Nat) (h t : Int) (ev rec : AV)
theorem sxCtg {A B : Prop} (h : B) (e : A = B := by (simp (disch := omega) only [*, ↓Ed, Eu, ↓reduceIte, reduceCtorEq, Nat.reduceAdd, Nat.reduceEqDiff, Nat.reduceLT, Nat.reduceLeDiff, Int.reduceToNat, Int.reduceEq, Int.reduceLT, Int.reduceLE, w64, List.length_append, List.length_map, List.length_cons, List.length_nil, Int.reduceAdd, Nat.zero_add, Nat.mul_one]; first | done | rfl)) : A := e ▸ h
theorem t_chTime : CT Tryz.prog 8 [.ptr c 0] (lk [(c, chC s p cl h t ev rec)]) (fun r o => r = .int .i64 t ∧ o = lk [(c, chC s p cl h t ev rec)]) := by
  refine okt_chain_Chain_Time _ _ _ (by simp) ?_
  simp (disch := omega) only [c_chain_Chain_Time, ↓Ed, Eu, ↓reduceIte, reduceCtorEq, Nat.reduceAdd, Nat.reduceEqDiff, Nat.reduceLT, Nat.reduceLeDiff, Int.reduceToNat, Int.reduceEq, Int.reduceLT, Int.reduceLE, w64, List.length_append, List.length_map, List.length_cons, List.length_nil, Int.reduceAdd, Nat.zero_add, Nat.mul_one]
  repeat' ((first | refine NewB_intro0 (fun b => ?_) | (refine NewB_intro (fun b hb => ?_); simp only [ln_cons2, ln_nil, and_true] at hb) | (with_reducible apply wA; focus exact OM_a) | ((first | refine gW_sp ?_ | refine condW_sp ?_ | refine pickW_sp ?_); (try refine Sp_n ?_); (first | refine wT ?_ | refine wF ?_ | refine wL (fun h h' => ?_) (fun h h' => ?_) | refine wE (fun h h' => ?_) (fun h h' => ?_) | refine Sp_split (fun h => ?_) (fun h => ?_)) <;> (try (exfalso; omega))) | refine TreeW_intro (by rfl) ?_ | refine TreeW_all ?_ | refine upQ_intro ?_ | refine Two_intro ?_ ?_ | exact wZ | fail) <;> (try refine sxCtg ?_) <;> (try exact True.intro))
  all_goals exact ro_mk (by simp [LeL, lk, resR, arR, *]) (sameD _)
theorem t_chHeight : CT Tryz.prog 10 [.ptr c 0] (lk [(c, chC s p cl h t ev rec)]) (fun r o => r = .int .i64 h ∧ o = lk [(c, chC s p cl h t ev rec)]) := by
  refine okt_chain_Chain_Height _ _ _ (by simp) ?_
  simp (disch := omega) only [c_chain_Chain_Height, ↓Ed, Eu, ↓reduceIte, reduceCtorEq, Nat.reduceAdd, Nat.reduceEqDiff, Nat.reduceLT, Nat.reduceLeDiff, Int.reduceToNat, Int.reduceEq, Int.reduceLT, Int.reduceLE, w64, List.length_append, List.length_map, List.length_cons, List.length_nil, Int.reduceAdd, Nat.zero_add, Nat.mul_one]
  repeat' ((first | refine NewB_intro0 (fun b => ?_) | (refine NewB_intro (fun b hb => ?_); simp only [ln_cons2, ln_nil, and_true] at hb) | (with_reducible apply wA; focus exact OM_a) | ((first | refine gW_sp ?_ | refine condW_sp ?_ | refine pickW_sp ?_); (try refine Sp_n ?_); (first | refine wT ?_ | refine wF ?_ | refine wL (fun h h' => ?_) (fun h h' => ?_) | refine wE (fun h h' => ?_) (fun h h' => ?_) | refine Sp_split (fun h => ?_) (fun h => ?_)) <;> (try (exfalso; omega))) | refine TreeW_intro (by rfl) ?_ | refine TreeW_all ?_ | refine upQ_intro ?_ | refine Two_intro ?_ ?_ | exact wZ | fail) <;> (try refine sxCtg ?_) <;> (try exact True.intro))
  all_goals exact ro_mk (by simp [LeL, lk, resR, arR, *]) (sameD _)
theorem t_chName : CT Tryz.prog 14 [.ptr c 0] (lk [(c, chC s p cl h t ev rec)]) (fun r o => r = .str alN ∧ o = lk [(c, chC s p cl h t ev rec)]) := by
  refine okt_chain_Chain_Name _ _ _ (by simp) ?_
  simp (disch := omega) only [c_chain_Chain_Name, ↓Ed, Eu, ↓reduceIte, reduceCtorEq, Nat.reduceAdd, Nat.reduceEqDiff, Nat.reduceLT, Nat.reduceLeDiff, Int.reduceToNat, Int.reduceEq, Int.reduceLT, Int.reduceLE, w64, List.length_append, List.length_map, List.length_cons, List.length_nil, Int.reduceAdd, Nat.zero_add, Nat.mul_one]
  repeat' ((first | refine NewB_intro0 (fun b => ?_) | (refine NewB_intro (fun b hb => ?_); simp only [ln_cons2, ln_nil, and_true] at hb) | (with_reducible apply wA; focus exact OM_a) | ((first | refine gW_sp ?_ | refine condW_sp ?_ | refine pickW_sp ?_); (try refine Sp_n ?_); (first | refine wT ?_ | refine wF ?_ | refine wL (fun h h' => ?_) (fun h h' => ?_) | refine wE (fun h h' => ?_) (fun h h' => ?_) | refine Sp_split (fun h => ?_) (fun h => ?_)) <;> (try (exfalso; omega))) | refine TreeW_intro (by rfl) ?_ | refine TreeW_all ?_ | refine upQ_intro ?_ | refine Two_intro ?_ ?_ | exact wZ | fail) <;> (try refine sxCtg ?_) <;> (try exact True.intro))
  all_goals exact ro_mk (by simp [LeL, lk, resR, arR, *]) (sameD _)
def tickE (t n : Int) : Int := if n < 0 then 1 else if 1099511627776 - t < n then 19 else 0
def tickT (t n : Int) : Int := if tickE t n = 0 then t + n else t
theorem tick_in {t n : Int} (ht : 0 ≤ t ∧ t ≤ 1099511627776) : 0 ≤ tickT t n ∧ tickT t n ≤ 1099511627776 := by
  by_cases h1 : n < 0
  · rw [show tickT t n = t by simp [tickT, tickE, h1]]; exact ht
  by_cases h2 : 1099511627776 - t < n
  · rw [show tickT t n = t by simp [tickT, tickE, h1, h2]]; exact ht
  · rw [show tickT t n = t + n by simp [tickT, tickE, h1, h2]]; omega
theorem t_chTick (ht : 0 ≤ t ∧ t ≤ 1099511627776) (n : Int) : CT Tryz.prog 7 [.ptr c 0, .int .i64 n] (lk [(c, chC s p cl h t ev rec)]) (fun r o => r = .int .i64 (tickE t n) ∧ o = lk [(c, chC s p cl h (tickT t n) ev rec)]) := by
  refine okt_chain_Chain_Tick _ _ _ (by simp) ?_
  by_cases h1 : n < 0
  · rw [show tickE t n = 1 by simp [tickE, h1], show tickT t n = t by simp [tickT, tickE, h1]]
    have f1 : Fact (decide (n < 0) = true) := by simp only [Fact, Bool.not_eq_true', Bool.not_eq_false', decide_eq_true_eq, decide_eq_false_iff_not]; omega
    clear h1
    simp (disch := omega) only [c_chain_Chain_Tick, ↓Ed, Eu, ↓reduceIte, reduceCtorEq, Nat.reduceAdd, Nat.reduceEqDiff, Nat.reduceLT, Nat.reduceLeDiff, Int.reduceToNat, Int.reduceEq, Int.reduceLT, Int.reduceLE, w64, List.length_append, List.length_map, List.length_cons, List.length_nil, Int.reduceAdd, Nat.zero_add, Nat.mul_one]
    repeat' ((first | refine NewB_intro0 (fun b => ?_) | (refine NewB_intro (fun b hb => ?_); simp only [ln_cons2, ln_nil, and_true] at hb) | (with_reducible apply wA; focus exact OM_a) | ((first | refine gW_sp ?_ | refine condW_sp ?_ | refine pickW_sp ?_); (try refine Sp_n ?_); (first | refine wT ?_ | refine wF ?_ | refine wL (fun h h' => ?_) (fun h h' => ?_) | refine wE (fun h h' => ?_) (fun h h' => ?_) | refine Sp_split (fun h => ?_) (fun h => ?_)) <;> (try (exfalso; omega))) | refine TreeW_intro (by rfl) ?_ | refine TreeW_all ?_ | refine upQ_intro ?_ | refine Two_intro ?_ ?_ | exact wZ | fail) <;> (try refine sxCtg ?_) <;> (try exact True.intro))
    all_goals exact ro_mk (by simp [LeL, lk, resR, arR, *]) (sameD _)
  have f1 : Fact (decide (n < 0) = false) := by simp only [Fact, Bool.not_eq_true', Bool.not_eq_false', decide_eq_true_eq, decide_eq_false_iff_not]; omega
  by_cases h2 : 1099511627776 - t < n
  · rw [show tickE t n = 19 by simp [tickE, h1, h2], show tickT t n = t by simp [tickT, tickE, h1, h2]]
    have f2 : Fact (decide (1099511627776 - t < n) = true) := by simp only [Fact, Bool.not_eq_true', Bool.not_eq_false', decide_eq_true_eq, decide_eq_false_iff_not]; omega
    clear h1 h2
    simp (disch := omega) only [c_chain_Chain_Tick, ↓Ed, Eu, ↓reduceIte, reduceCtorEq, Nat.reduceAdd, Nat.reduceEqDiff, Nat.reduceLT, Nat.reduceLeDiff, Int.reduceToNat, Int.reduceEq, Int.reduceLT, Int.reduceLE, w64, List.length_append, List.length_map, List.length_cons, List.length_nil, Int.reduceAdd, Nat.zero_add, Nat.mul_one]
    repeat' ((first | refine NewB_intro0 (fun b => ?_) | (refine NewB_intro (fun b hb => ?_); simp only [ln_cons2, ln_nil, and_true] at hb) | (with_reducible apply wA; focus exact OM_a) | ((first | refine gW_sp ?_ | refine condW_sp ?_ | refine pickW_sp ?_); (try refine Sp_n ?_); (first | refine wT ?_ | refine wF ?_ | refine wL (fun h h' => ?_) (fun h h' => ?_) | refine wE (fun h h' => ?_) (fun h h' => ?_) | refine Sp_split (fun h => ?_) (fun h => ?_)) <;> (try (exfalso; omega))) | refine TreeW_intro (by rfl) ?_ | refine TreeW_all ?_ | refine upQ_intro ?_ | refine Two_intro ?_ ?_ | exact wZ | fail) <;> (try refine sxCtg ?_) <;> (try exact True.intro))
    all_goals exact ro_mk (by simp [LeL, lk, resR, arR, *]) (sameD _)
  · rw [show tickE t n = 0 by simp [tickE, h1, h2], show tickT t n = t + n by simp [tickT, tickE, h1, h2]]
    have f2 : Fact (decide (1099511627776 - t < n) = false) := by simp only [Fact, Bool.not_eq_true', Bool.not_eq_false', decide_eq_true_eq, decide_eq_false_iff_not]; omega
    simp (disch := omega) only [c_chain_Chain_Tick, ↓Ed, Eu, ↓reduceIte, reduceCtorEq, Nat.reduceAdd, Nat.reduceEqDiff, Nat.reduceLT, Nat.reduceLeDiff, Int.reduceToNat, Int.reduceEq, Int.reduceLT, Int.reduceLE, w64, List.length_append, List.length_map, List.length_cons, List.length_nil, Int.reduceAdd, Nat.zero_add, Nat.mul_one]
    repeat' ((first | refine NewB_intro0 (fun b => ?_) | (refine NewB_intro (fun b hb => ?_); simp only [ln_cons2, ln_nil, and_true] at hb) | (with_reducible apply wA; focus exact OM_a) | ((first | refine gW_sp ?_ | refine condW_sp ?_ | refine pickW_sp ?_); (try refine Sp_n ?_); (first | refine wT ?_ | refine wF ?_ | refine wL (fun h h' => ?_) (fun h h' => ?_) | refine wE (fun h h' => ?_) (fun h h' => ?_) | refine Sp_split (fun h => ?_) (fun h => ?_)) <;> (try (exfalso; omega))) | refine TreeW_intro (by rfl) ?_ | refine TreeW_all ?_ | refine upQ_intro ?_ | refine Two_intro ?_ ?_ | exact wZ | fail) <;> (try refine sxCtg ?_) <;> (try exact True.intro))
    all_goals exact ro_mk (by simp [LeL, lk, resR, arR, *]) dom1
end
end Go.Proofs.YtmmmbmljompamaaGreatDoor

namespace Go.Proofs.YtmmmbmljompamaaGreatDoor
set_option linter.all false
open Go.RowKit
set_option maxRecDepth 100000
def sgR (R : List (List UInt8)) : List (List AV) := R.map fun x => [.str x]
theorem sgR_len (R : List (List UInt8)) : (sgR R).length = R.length := by simp [sgR]
theorem sgR_snoc (R : List (List UInt8)) (x : List UInt8) : sgR (R ++ [x]) = sgR R ++ [[.str x]] := by simp [sgR]
def recC : List (List UInt8) → AV
  | [] => .nils 9 1
  | R => .sl (some 9) 1 (sgR R)
theorem recC_cases (R : List (List UInt8)) : (recC R = .nils 9 1 ∧ sgR R = []) ∨ recC R = .sl (some 9) 1 (sgR R) := by
  cases R with
  | nil => exact .inl ⟨rfl, rfl⟩
  | cons x R => exact .inr rfl
theorem recC_snoc (R : List (List UInt8)) (x : List UInt8) : recC (R ++ [x]) = .sl (some 9) 1 (sgR R ++ [[.str x]]) := by
  rw [← sgR_snoc]
  cases R <;> rfl
theorem p_clnS (R : List (List UInt8)) (h : R.length ≤ 1000) : CP Tryz.prog 25 [.sl none 1 (sgR R)] (.sl (some 9) 1 (sgR R)) := by
  obtain ⟨i0, hi, hz0, hz1, hz2⟩ := info_parts (P := Tryz.prog) (e := 9) (z := .string ⟨#[]⟩) (size := 1) (bytes := 16) (by kernel_rfl)
  exact CP_clone Tryz.cln25 i0 _ 1 16 hi hz0 hz1 hz2 rfl (by omega) Tryz.sizeOf9 (sgR R) (by simp [sgR]; omega) (by simp [sgR, maxLen]; omega) (fun e he => by obtain ⟨x, _, rfl⟩ := List.mem_map.1 he; rfl) (fun e he => by obtain ⟨x, _, rfl⟩ := List.mem_map.1 he; rfl)
section
variable (c s p m cl : Nat) (hd : ChD c s p m) (h t : Int) (ev rec : AV)
theorem sxCth {A B : Prop} (h : B) (e : A = B := by (simp (disch := omega) only [*, ↓Ed, Eu, ↓reduceIte, reduceCtorEq, Nat.reduceAdd, Nat.reduceEqDiff, Nat.reduceLT, Nat.reduceLeDiff, Int.reduceToNat, Int.reduceEq, Int.reduceLT, Int.reduceLE, w64, List.length_append, List.length_map, List.length_cons, List.length_nil, Int.reduceAdd, Nat.zero_add, Nat.mul_one]; first | done | rfl)) : A := e ▸ h
theorem t_chRecs (R : List (List UInt8)) (hR : R.length ≤ 1000) : CT Tryz.prog 13 [.ptr c 0] (lk [(c, chC s p cl h t ev (recC R))]) (fun r o => r = .sl (some 9) 1 (sgR R) ∧ o = lk [(c, chC s p cl h t ev (recC R))]) := by
  have hC := p_clnS R hR
  refine okt_chain_Chain_Records _ _ _ (by simp) ?_
  rcases recC_cases R with ⟨e, e0⟩ | e
  all_goals rw [e]
  · rw [e0] at hC ⊢
    simp (disch := omega) only [c_chain_Chain_Records, ↓Ed, Eu, ↓reduceIte, reduceCtorEq, Nat.reduceAdd, Nat.reduceEqDiff, Nat.reduceLT, Nat.reduceLeDiff, Int.reduceToNat, Int.reduceEq, Int.reduceLT, Int.reduceLE, w64, List.length_append, List.length_map, List.length_cons, List.length_nil, Int.reduceAdd, Nat.zero_add, Nat.mul_one]
    repeat' ((first | refine CallO_pure (hC) ?_ | refine CallW_intro (hC) ?_ | refine NewB_intro0 (fun b => ?_) | (refine NewB_intro (fun b hb => ?_); simp only [ln_cons2, ln_nil, and_true] at hb) | (with_reducible apply wA; focus exact OM_a) | ((first | refine gW_sp ?_ | refine condW_sp ?_ | refine pickW_sp ?_); (try refine Sp_n ?_); (first | refine wT ?_ | refine wF ?_ | refine wL (fun h h' => ?_) (fun h h' => ?_) | refine wE (fun h h' => ?_) (fun h h' => ?_) | refine Sp_split (fun h => ?_) (fun h => ?_)) <;> (try (exfalso; omega))) | refine TreeW_intro (by rfl) ?_ | refine TreeW_all ?_ | refine upQ_intro ?_ | refine Two_intro ?_ ?_ | exact wZ | fail) <;> (try refine sxCth ?_) <;> (try exact True.intro))
    all_goals exact ro_mk (by simp [LeL, lk, resR, arR, *]) (sameD _)
  · generalize sgR R = X at *
    simp (disch := omega) only [c_chain_Chain_Records, ↓Ed, Eu, ↓reduceIte, reduceCtorEq, Nat.reduceAdd, Nat.reduceEqDiff, Nat.reduceLT, Nat.reduceLeDiff, Int.reduceToNat, Int.reduceEq, Int.reduceLT, Int.reduceLE, w64, List.length_append, List.length_map, List.length_cons, List.length_nil, Int.reduceAdd, Nat.zero_add, Nat.mul_one]
    repeat' ((first | refine CallO_pure (hC) ?_ | refine CallW_intro (hC) ?_ | refine NewB_intro0 (fun b => ?_) | (refine NewB_intro (fun b hb => ?_); simp only [ln_cons2, ln_nil, and_true] at hb) | (with_reducible apply wA; focus exact OM_a) | ((first | refine gW_sp ?_ | refine condW_sp ?_ | refine pickW_sp ?_); (try refine Sp_n ?_); (first | refine wT ?_ | refine wF ?_ | refine wL (fun h h' => ?_) (fun h h' => ?_) | refine wE (fun h h' => ?_) (fun h h' => ?_) | refine Sp_split (fun h => ?_) (fun h => ?_)) <;> (try (exfalso; omega))) | refine TreeW_intro (by rfl) ?_ | refine TreeW_all ?_ | refine upQ_intro ?_ | refine Two_intro ?_ ?_ | exact wZ | fail) <;> (try refine sxCth ?_) <;> (try exact True.intro))
    all_goals exact ro_mk (by simp [LeL, lk, resR, arR, *]) (sameD _)
include hd
theorem t_chLast (l : List RcC) (hI : RcI l) (hl : l.length ≤ 1000) : CT Tryz.prog 12 [.ptr c 0] (lk [(c, chC s p cl h t ev rec), (p, [.mapv m, mkC l])]) (fun r o => r = .int .i64 (l.length : Int) ∧ o = lk [(c, chC s p cl h t ev rec), (p, [.mapv m, mkC l])]) := by
  have hL := t_pLast p l hI hl (.mapv m)
  obtain ⟨d1, d2, d3, d4, d5, d6⟩ := hd
  refine okt_chain_Chain_Last _ _ _ (by simp) ?_
  clear hI
  generalize mkC l = X at *
  simp (disch := omega) only [c_chain_Chain_Last, ↓Ed, Eu, ↓reduceIte, reduceCtorEq, Nat.reduceAdd, Nat.reduceEqDiff, Nat.reduceLT, Nat.reduceLeDiff, Int.reduceToNat, Int.reduceEq, Int.reduceLT, Int.reduceLE, w64, List.length_append, List.length_map, List.length_cons, List.length_nil, Int.reduceAdd, Nat.zero_add, Nat.mul_one]
  repeat' ((first | refine c1 (hL) ?_ | refine NewB_intro0 (fun b => ?_) | (refine NewB_intro (fun b hb => ?_); simp only [ln_cons2, ln_nil, and_true] at hb) | (with_reducible apply wA; focus exact OM_a) | ((first | refine gW_sp ?_ | refine condW_sp ?_ | refine pickW_sp ?_); (try refine Sp_n ?_); (first | refine wT ?_ | refine wF ?_ | refine wL (fun h h' => ?_) (fun h h' => ?_) | refine wE (fun h h' => ?_) (fun h h' => ?_) | refine Sp_split (fun h => ?_) (fun h => ?_)) <;> (try (exfalso; omega))) | refine TreeW_intro (by rfl) ?_ | refine TreeW_all ?_ | refine upQ_intro ?_ | refine Two_intro ?_ ?_ | exact wZ | fail) <;> (try refine sxCth ?_) <;> (try exact True.intro))
  all_goals exact ro_mk (by simp [LeL, lk, resR, arR, *]) (sameD _)
theorem t_chHeader (l : List RcC) (hI : RcI l) (i : Nat) (hi : i < l.length) (v : AV) : CT Tryz.prog 11 [.ptr c 0, .int .i64 ((i : Int) + 1)] (lk [(c, chC s p cl h t ev rec), (p, [.mapv m, v]), (m, [mpR l])])
    (fun r o => r = .tup [.agg (l.getD i default).x.cs, .bool true] ∧ o = lk [(c, chC s p cl h t ev rec), (p, [.mapv m, v]), (m, [mpR l])]) := by
  have hH := t_pHeader p m hd.f l hI i hi v
  obtain ⟨d1, d2, d3, d4, d5, d6⟩ := hd
  refine okt_chain_Chain_Header _ _ _ (by simp) ?_
  clear hI hi
  obtain ⟨x, hx⟩ : ∃ x, (l.getD i default).x = x := ⟨_, rfl⟩
  rw [hx] at hH ⊢
  have r1 := rt_len x
  have r2 := rt_so x
  have r3 := rt_take x
  have r4 : splice z32 0 x.rt = x.rt := splice_whole z32 _ (by rw [r1]; rfl)
  simp only [z32] at r4
  simp only [HdC.cs] at hH ⊢
  clear hx
  obtain ⟨xh, xt, xr, xn⟩ := x
  simp only at *
  generalize HdC.rt _ = Z at *
  simp (disch := omega) only [c_chain_Chain_Header, ↓Ed, Eu, ↓reduceIte, reduceCtorEq, Nat.reduceAdd, Nat.reduceEqDiff, Nat.reduceLT, Nat.reduceLeDiff, Int.reduceToNat, Int.reduceEq, Int.reduceLT, Int.reduceLE, w64, List.length_append, List.length_map, List.length_cons, List.length_nil, Int.reduceAdd, Nat.zero_add, Nat.mul_one]
  repeat' ((first | refine c2 (hH) ?_ | refine NewB_intro0 (fun b => ?_) | (refine NewB_intro (fun b hb => ?_); simp only [ln_cons2, ln_nil, and_true] at hb) | (with_reducible apply wA; focus exact OM_a) | ((first | refine gW_sp ?_ | refine condW_sp ?_ | refine pickW_sp ?_); (try refine Sp_n ?_); (first | refine wT ?_ | refine wF ?_ | refine wL (fun h h' => ?_) (fun h h' => ?_) | refine wE (fun h h' => ?_) (fun h h' => ?_) | refine Sp_split (fun h => ?_) (fun h => ?_)) <;> (try (exfalso; omega))) | refine TreeW_intro (by rfl) ?_ | refine TreeW_all ?_ | refine upQ_intro ?_ | refine Two_intro ?_ ?_ | exact wZ | fail) <;> (try refine sxCth ?_) <;> (try exact True.intro))
  all_goals exact ro_mk (by simp [LeL, lk, r_two, rl_cons, rl_nil, arR, al_agg, al_bool, AV.alias, view, l_all, *]) (sameD _)
set_option maxHeartbeats 4000000 in
theorem t_chCommit (hev : ev.alias = .sl none 13 []) (ht : 0 ≤ t ∧ t ≤ 1099511627776) (l : List RcC) (hI : RcI l) (hl : l.length ≤ 500) (R : List (List UInt8)) (hR : R.length ≤ 500) :
    CT Tryz.prog 9 [.ptr c 0] (lk (chO c s p m cl ((l.length : Int) + 1) t ev (recC R) l))
      (fun r o => ∃ q : Nat × List UInt8, (¬ q.1 = s ∧ ¬ s = q.1) ∧ r = .int .i64 0 ∧ o = lk (chO c s p m cl ((l.length : Int) + 2) t (.sl none 13 []) (recC (R ++ [q.2])) (l ++ [⟨hd0 ((l.length : Int) + 1) t, q.1⟩]))) := by
  have hK := t_pKeep p m s hd.f hd.g hd.h l hI (by omega) t ht
  have hE := p_bEnc0 alN ((l.length : Int) + 1) t al_name (by simp) (by omega) ht
  have hF := t_fPut (bEnc alN ((l.length : Int) + 1) t) (by have := bEnc_len alN ((l.length : Int) + 1) t; simp only [List.length_cons, List.length_nil] at this; omega)
  obtain ⟨d1, d2, d3, d4, d5, d6⟩ := hd
  have f1 : Fact (decide (1099511627776 ≤ (l.length : Int) + 1) = false) := by simp only [Fact, Bool.not_eq_true', Bool.not_eq_false', decide_eq_true_eq, decide_eq_false_iff_not]; omega
  have e1 : (l.length : Int) + 1 + 1 = (l.length : Int) + 2 := by omega
  have hmx : 1000000 ≤ maxLen := by unfold maxLen; decide
  have hsl := sgR_len R
  have hrs := recC_snoc R
  refine okt_chain_Chain_Commit _ _ _ (by simp) ?_
  clear hI
  simp only [chO]
  generalize bEnc alN ((l.length : Int) + 1) t = Y at *
  generalize mkC l = X at *
  rcases recC_cases R with ⟨e, e0⟩ | e
  all_goals rw [e]
  all_goals simp (disch := omega) only [c_chain_Chain_Commit, hev, ↓Ed, Eu, ↓reduceIte, reduceCtorEq, Nat.reduceAdd, Nat.reduceEqDiff, Nat.reduceLT, Nat.reduceLeDiff, Int.reduceToNat, Int.reduceEq, Int.reduceLT, Int.reduceLE, w64, List.length_append, List.length_map, List.length_cons, List.length_nil, Int.reduceAdd, Nat.zero_add, Nat.mul_one]
  all_goals repeat' ((first | refine CallO_pure (hE) ?_ | refine CallW_intro (hE) ?_ | (refine CallO_exr hK (lk_sub3 (by first | ((repeat (first | exact lk_hd _ _ _ | (refine lk_tl ?_ ?_; (focus (first | assumption | (simp only [*, not_false_eq_true]; done)))))); done) | fail) (by first | ((repeat (first | exact lk_hd _ _ _ | (refine lk_tl ?_ ?_; (focus (first | assumption | (simp only [*, not_false_eq_true]; done)))))); done) | fail) (by first | ((repeat (first | exact lk_hd _ _ _ | (refine lk_tl ?_ ?_; (focus (first | assumption | (simp only [*, not_false_eq_true]; done)))))); done) | fail)) (fun bc hbc _ => ?_)) | (refine CallO_exr hF (fun b cs hb => by simp [lk] at hb) (fun z hz _ => ?_)) | refine NewB_intro0 (fun b => ?_) | (refine NewB_intro (fun b hb => ?_); simp only [ln_cons2, ln_nil, and_true] at hb) | (with_reducible apply wA; focus exact OM_a) | ((first | refine gW_sp ?_ | refine condW_sp ?_ | refine pickW_sp ?_); (try refine Sp_n ?_); (first | refine wT ?_ | refine wF ?_ | refine wL (fun h h' => ?_) (fun h h' => ?_) | refine wE (fun h h' => ?_) (fun h h' => ?_) | refine Sp_split (fun h => ?_) (fun h => ?_)) <;> (try (exfalso; omega))) | refine TreeW_intro (by rfl) ?_ | refine TreeW_all ?_ | refine upQ_intro ?_ | refine Two_intro ?_ ?_ | exact wZ | fail) <;> (try refine sxCth ?_) <;> (try exact True.intro))
  all_goals exact ro_exr (bc, z) (by simp [LeL, lk, resR, arR, *]) hbc (dom_keys rfl)
end
end Go.Proofs.YtmmmbmljompamaaGreatDoor
