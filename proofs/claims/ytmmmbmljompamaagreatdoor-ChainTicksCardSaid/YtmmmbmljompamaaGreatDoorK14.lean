import Derived.Test.YtmmmbmljompamaaGreatDoorK13
import Derived.Test.YtmmmbmljompamaaGreatDoorK7
import Derived.Carry
import Derived.ChangeSame
import Derived.Deep.Slices
import Derived.Below
import Derived.OpenShut
import Derived.Test.YtmmmbmljompamaaGreatDoorRows
import Derived.Test.YtmmmbmljompamaaGreatDoorK10
import Derived.Handed
import Derived.HandedShaped
import Derived.LaidMore
import Derived.MakeChecks
import Derived.Stop.LaidErr
namespace Go.Proofs.YtmmmbmljompamaaGreatDoor
set_option linter.all false
open Go.RowKit
set_option maxRecDepth 100000
section
variable {d : Option Nat} {st : St} {K : St → Prop}
theorem c_chNew {f : Nat} {vs : List AV} (h : CT Tryz.prog f vs (lk []) (fun r o => ∃ q : Nat × Nat × Nat × Nat × Nat, ChD q.1 q.2.1 q.2.2.1 q.2.2.2.1 ∧ r = .tup [.ptr q.1 0, .int .i64 0] ∧
    o = lk (chO q.1 q.2.1 q.2.2.1 q.2.2.2.1 q.2.2.2.2 1 0 (.nils 100 13) (.nils 9 1) [])))
    (hK : ∀ c s p m cl, ChD c s p m → KS (St.put ⟨st.t, ovr (chO c s p m cl (([] : List RcC).length + 1) 0 (.nils 100 13) (recC []) []) st.o⟩ d (.tup [.ptr c 0, .int .i64 0])) K) : CallO Tryz.prog f vs d st K :=
  CallO_exr h (fun b cs hb => by simp [lk] at hb) fun q hq _ => hK q.1 q.2.1 q.2.2.1 q.2.2.2.1 q.2.2.2.2 hq
theorem lk_sub4 {b1 b2 b3 b4 : Nat} {c1 c2 c3 c4 : List AV} {o : Nat → Option (List AV)} (h1 : o b1 = some c1) (h2 : o b2 = some c2) (h3 : o b3 = some c3) (h4 : o b4 = some c4) : ∀ b cs, lk [(b1, c1), (b2, c2), (b3, c3), (b4, c4)] b = some cs → o b = some cs := by
  intro b cs h
  rw [lk_cons] at h
  by_cases e : b = b1
  · subst e; rw [if_pos rfl] at h; rw [h1, h]
  · rw [if_neg e] at h; exact lk_sub3 h2 h3 h4 b cs h
theorem rcI_snoc {l : List RcC} (h : RcI l) (t : Int) (b : Nat) : RcI (l ++ [⟨hd0 ((l.length : Int) + 1) t, b⟩]) := by
  intro i hi
  rw [List.length_append, List.length_singleton] at hi
  by_cases e : i < l.length
  · have e2 : (l ++ [(⟨hd0 ((l.length : Int) + 1) t, b⟩ : RcC)]).getD i default = l.getD i default := by simp [List.getD, List.getElem?_append_left e]
    rw [e2]; exact h i e
  · obtain rfl : i = l.length := by omega
    simp [List.getD, hd0]
theorem c_chCommit {f c s p m cl : Nat} {vs : List AV} {t : Int} {ev : AV} {l : List RcC} {R : List (List UInt8)} {n : Nat} (hn : l.length = n)
    (h : CT Tryz.prog f vs (lk (chO c s p m cl ((l.length : Int) + 1) t ev (recC R) l))
      (fun r o => ∃ q : Nat × List UInt8, (¬ q.1 = s ∧ ¬ s = q.1) ∧ r = .int .i64 0 ∧ o = lk (chO c s p m cl ((l.length : Int) + 2) t (.sl none 13 []) (recC (R ++ [q.2])) (l ++ [⟨hd0 ((l.length : Int) + 1) t, q.1⟩]))))
    (hI : RcI l)
    (hK : ∀ (l' : List RcC) (R' : List (List UInt8)), RcI l' → l'.length = n + 1 → R'.length = R.length + 1 → (l'.getD n default).x.h = (n : Int) + 1 → (l'.getD n default).x.t = t →
      KS (St.put ⟨st.t, ovr (chO c s p m cl (((n + 1 : Nat) : Int) + 1) t (.sl none 13 []) (recC R') l') st.o⟩ d (.int .i64 0)) K)
    (q1 : st.o c = some (chC s p cl ((n : Int) + 1) t ev (recC R)) := by first | ((repeat (first | exact lk_hd _ _ _ | (refine lk_tl ?_ ?_; (focus (first | assumption | (simp only [*, not_false_eq_true]; done)))))); done) | fail) (q2 : st.o p = some [.mapv m, mkC l] := by first | ((repeat (first | exact lk_hd _ _ _ | (refine lk_tl ?_ ?_; (focus (first | assumption | (simp only [*, not_false_eq_true]; done)))))); done) | fail) (q3 : st.o m = some [mpR l] := by first | ((repeat (first | exact lk_hd _ _ _ | (refine lk_tl ?_ ?_; (focus (first | assumption | (simp only [*, not_false_eq_true]; done)))))); done) | fail) (q4 : st.o s = some [.nils 118 2] := by first | ((repeat (first | exact lk_hd _ _ _ | (refine lk_tl ?_ ?_; (focus (first | assumption | (simp only [*, not_false_eq_true]; done)))))); done) | fail) : CallO Tryz.prog f vs d st K := by
  subst hn
  refine CallO_exr h (lk_sub4 q1 q2 q3 q4) fun q hq _ => ?_
  have := hK (l ++ [⟨hd0 ((l.length : Int) + 1) t, q.1⟩]) (R ++ [q.2]) (rcI_snoc hI t q.1) (by simp) (by simp) (by simp [List.getD, hd0]) (by simp [List.getD, hd0])
  rw [show ((l.length + 1 : Nat) : Int) + 1 = (l.length : Int) + 2 by omega] at this
  exact this
end
theorem sxLta {A B : Prop} (h : B) (e : A = B := by (simp (disch := omega) only [*, ↓Ed, Eu, ↓reduceIte, reduceCtorEq, Nat.reduceAdd, Nat.reduceEqDiff, Nat.reduceLT, Nat.reduceLeDiff, Int.reduceToNat, Int.reduceEq, Int.reduceLT, Int.reduceLE, w64, List.length_append, List.length_map, List.length_cons, List.length_nil, Int.reduceAdd, Nat.zero_add, Nat.mul_one]; first | done | rfl)) : A := e ▸ h
set_option maxHeartbeats 8000000 in
theorem p_first19 : CP Tryz.prog 4 [] (.bool true) := by
  refine ok_liglaw19_first _ _ (by simp) ?_
  simp (disch := omega) only [c_liglaw19_first, ↓Ed, Eu, ↓reduceIte, reduceCtorEq, Nat.reduceAdd, Nat.reduceEqDiff, Nat.reduceLT, Nat.reduceLeDiff, Int.reduceToNat, Int.reduceEq, Int.reduceLT, Int.reduceLE, w64, List.length_append, List.length_map, List.length_cons, List.length_nil, Int.reduceAdd, Nat.zero_add, Nat.mul_one]
  repeat' ((first | refine CallO_pure (p_pl19) ?_ | (refine c_chNew t_chNew (fun c s p m cl hd => ?_)) | refine NewB_intro0 (fun b => ?_) | (refine NewB_intro (fun b hb => ?_); simp only [ln_cons2, ln_nil, and_true] at hb) | (with_reducible apply wA; focus exact OM_a) | ((first | refine gW_sp ?_ | refine condW_sp ?_ | refine pickW_sp ?_); (try refine Sp_n ?_); (first | refine wT ?_ | refine wF ?_ | refine wL (fun h h' => ?_) (fun h h' => ?_) | refine wE (fun h h' => ?_) (fun h h' => ?_) | refine Sp_split (fun h => ?_) (fun h => ?_)) <;> (try (exfalso; omega))) | refine TreeW_intro (by rfl) ?_ | refine TreeW_all ?_ | refine upQ_intro ?_ | refine Two_intro ?_ ?_ | exact wZ | fail) <;> (try refine sxLta ?_) <;> (try exact True.intro))
  have hd' := hd
  obtain ⟨d1, d2, d3, d4, d5, d6⟩ := hd'
  have h1 := t_chCommit c s p m cl hd 0 (.nils 100 13) rfl (by omega) [] (fun i hi => by simp at hi) (by simp) [] (by simp)
  have hI0 : RcI [] := fun i hi => by simp at hi
  refine c_chCommit (n := 0) rfl h1 hI0 (fun l1 R1 hI1 hl1 hR1 _ _ => ?_)
  have h2 := t_chCommit c s p m cl hd 0 (.sl none 13 []) rfl (by omega) l1 hI1 (by omega) R1 (by simp at hR1; omega)
  simp (disch := omega) only [↓Ed, Eu, ↓reduceIte, reduceCtorEq, Nat.reduceAdd, Nat.reduceEqDiff, Nat.reduceLT, Nat.reduceLeDiff, Int.reduceToNat, Int.reduceEq, Int.reduceLT, Int.reduceLE, w64, List.length_append, List.length_map, List.length_cons, List.length_nil, Int.reduceAdd, Nat.zero_add, Nat.mul_one]
  repeat' ((first | (refine c_chCommit (n := 1) hl1 h2 hI1 (fun l2 R2 hI2 hl2 hR2 _ _ => ?_)) | refine NewB_intro0 (fun b => ?_) | (refine NewB_intro (fun b hb => ?_); simp only [ln_cons2, ln_nil, and_true] at hb) | (with_reducible apply wA; focus exact OM_a) | ((first | refine gW_sp ?_ | refine condW_sp ?_ | refine pickW_sp ?_); (try refine Sp_n ?_); (first | refine wT ?_ | refine wF ?_ | refine wL (fun h h' => ?_) (fun h h' => ?_) | refine wE (fun h h' => ?_) (fun h h' => ?_) | refine Sp_split (fun h => ?_) (fun h => ?_)) <;> (try (exfalso; omega))) | refine TreeW_intro (by rfl) ?_ | refine TreeW_all ?_ | refine upQ_intro ?_ | refine Two_intro ?_ ?_ | exact wZ | fail) <;> (try refine sxLta ?_) <;> (try exact True.intro))
  have hl2' : l2.length = 2 := hl2
  have hR2' : (sgR R2).length = 2 := by rw [sgR_len, hR2, hR1]; rfl
  have g1 : Fact (decide (((2 : Nat) : Int) + 1 = 3) = true) := rfl
  have g2 : Fact (decide (((2 : Nat) : Int) = 2) = true) := rfl
  have hL := fun h t ev rec => t_chLast c s p m cl hd h t ev rec l2 hI2 (by omega)
  have hC := fun h t ev => t_chRecs c s p cl h t ev R2 (by rw [sgR_len] at hR2'; omega)
  rw [hl2'] at hL
  clear h1 h2 hI0 hI1 hI2 hl1 hl2 hR1 hR2 hl2'
  repeat' ((first | refine c1 (t_chHeight _ _ _ _ _ _ _ _) ?_ | refine c1 (t_chName _ _ _ _ _ _ _ _) ?_ | refine c2 (hL _ _ _ _) ?_ | refine c1 (hC _ _ _) ?_ | refine NewB_intro0 (fun b => ?_) | (refine NewB_intro (fun b hb => ?_); simp only [ln_cons2, ln_nil, and_true] at hb) | (with_reducible apply wA; focus exact OM_a) | ((first | refine gW_sp ?_ | refine condW_sp ?_ | refine pickW_sp ?_); (try refine Sp_n ?_); (first | refine wT ?_ | refine wF ?_ | refine wL (fun h h' => ?_) (fun h h' => ?_) | refine wE (fun h h' => ?_) (fun h h' => ?_) | refine Sp_split (fun h => ?_) (fun h => ?_)) <;> (try (exfalso; omega))) | refine TreeW_intro (by rfl) ?_ | refine TreeW_all ?_ | refine upQ_intro ?_ | refine Two_intro ?_ ?_ | exact wZ | fail) <;> (try refine sxLta ?_) <;> (try exact True.intro))
end Go.Proofs.YtmmmbmljompamaaGreatDoor

namespace Go.Proofs.YtmmmbmljompamaaGreatDoor
set_option linter.all false
open Go.RowKit
set_option maxRecDepth 100000
def tkR (l : List Int) : List (List AV) := l.map fun v => [.int .i64 v]
theorem tkR_len (l : List Int) : (tkR l).length = l.length := by simp [tkR]
theorem tkR_get (l : List Int) (i : Nat) (h : i < l.length) : (tkR l).getD i [] = [.int .i64 (l.getD i 0)] := by simp [tkR, h]
theorem sxLtb {A B : Prop} (h : B) (e : A = B := by (simp (disch := omega) only [*, ↓Ed, Eu, ↓reduceIte, reduceCtorEq, Nat.reduceAdd, Nat.reduceEqDiff, Nat.reduceLT, Nat.reduceLeDiff, Int.reduceToNat, Int.reduceEq, Int.reduceLT, Int.reduceLE, w64, List.length_append, List.length_map, List.length_cons, List.length_nil, Int.reduceAdd, Nat.zero_add, Nat.mul_one, tkR_len, tkR_get]; first | done | rfl)) : A := e ▸ h
set_option maxHeartbeats 8000000 in
theorem p_ChainTicks (l : List Int) : CP Tryz.prog 3 [.sl none 1 (tkR l)] (.bool true) := by
  have hF := p_first19
  refine ok_liglaw19_ChainTicks _ _ (by simp) ?_
  by_cases hl : 60 < l.length
  · have f1 : Fact (decide (60 < (l.length : Int)) = true) := by simp only [Fact, Bool.not_eq_true', Bool.not_eq_false', decide_eq_true_eq, decide_eq_false_iff_not]; omega
    simp (disch := omega) only [c_liglaw19_ChainTicks, tkR_len, ↓Ed, Eu, ↓reduceIte, reduceCtorEq, Nat.reduceAdd, Nat.reduceEqDiff, Nat.reduceLT, Nat.reduceLeDiff, Int.reduceToNat, Int.reduceEq, Int.reduceLT, Int.reduceLE, w64, List.length_append, List.length_map, List.length_cons, List.length_nil, Int.reduceAdd, Nat.zero_add, Nat.mul_one, tkR_len, tkR_get]
    repeat' ((first | refine CallO_pure (hF) ?_ | refine NewB_intro0 (fun b => ?_) | (refine NewB_intro (fun b hb => ?_); simp only [ln_cons2, ln_nil, and_true] at hb) | (with_reducible apply wA; focus exact OM_a) | ((first | refine gW_sp ?_ | refine condW_sp ?_ | refine pickW_sp ?_); (try refine Sp_n ?_); (first | refine wT ?_ | refine wF ?_ | refine wL (fun h h' => ?_) (fun h h' => ?_) | refine wE (fun h h' => ?_) (fun h h' => ?_) | refine Sp_split (fun h => ?_) (fun h => ?_)) <;> (try (exfalso; omega))) | refine TreeW_intro (by rfl) ?_ | refine TreeW_all ?_ | refine upQ_intro ?_ | refine Two_intro ?_ ?_ | exact wZ | fail) <;> (try refine sxLtb ?_) <;> (try exact True.intro))
  have f1 : Fact (decide (60 < (l.length : Int)) = false) := by simp only [Fact, Bool.not_eq_true', Bool.not_eq_false', decide_eq_true_eq, decide_eq_false_iff_not]; omega
  simp (disch := omega) only [c_liglaw19_ChainTicks, tkR_len, ↓Ed, Eu, ↓reduceIte, reduceCtorEq, Nat.reduceAdd, Nat.reduceEqDiff, Nat.reduceLT, Nat.reduceLeDiff, Int.reduceToNat, Int.reduceEq, Int.reduceLT, Int.reduceLE, w64, List.length_append, List.length_map, List.length_cons, List.length_nil, Int.reduceAdd, Nat.zero_add, Nat.mul_one, tkR_len, tkR_get]
  repeat' ((first | refine CallO_pure (hF) ?_ | refine CallO_pure (p_pl19) ?_ | (refine c_chNew t_chNew (fun c s p m cl hd => ?_)) | refine NewB_intro0 (fun b => ?_) | (refine NewB_intro (fun b hb => ?_); simp only [ln_cons2, ln_nil, and_true] at hb) | (with_reducible apply wA; focus exact OM_a) | ((first | refine gW_sp ?_ | refine condW_sp ?_ | refine pickW_sp ?_); (try refine Sp_n ?_); (first | refine wT ?_ | refine wF ?_ | refine wL (fun h h' => ?_) (fun h h' => ?_) | refine wE (fun h h' => ?_) (fun h h' => ?_) | refine Sp_split (fun h => ?_) (fun h => ?_)) <;> (try (exfalso; omega))) | refine TreeW_intro (by rfl) ?_ | refine TreeW_all ?_ | refine upQ_intro ?_ | refine Two_intro ?_ ?_ | exact wZ | fail) <;> (try refine sxLtb ?_) <;> (try exact True.intro))
  clear hF f1
  have hd' := hd
  obtain ⟨d1, d2, d3, d4, d5, d6⟩ := hd'
  refine wpx_loop (fun x : Nat × Int × List RcC × List (List UInt8) × AV => ⟨lk [(0, .sl none 1 (tkR l)), (3, .ptr c 0), (5, .int .i64 x.2.1), (6, .int .i64 (x.1 : Int))], lk (chO c s p m cl ((x.1 : Int) + 1) x.2.1 x.2.2.2.2 (recC x.2.2.2.1) x.2.2.1)⟩)
    (fun x => x.1 ≤ l.length ∧ (0 ≤ x.2.1 ∧ x.2.1 ≤ 1099511627776) ∧ RcI x.2.2.1 ∧ x.2.2.1.length = x.1 ∧ x.2.2.2.1.length = x.1 ∧ x.2.2.2.2.alias = .sl none 13 []) (fun x => l.length - x.1)
    (0, 0, [], [], .nils 100 13) ⟨by simp, by simp, fun i hi => by simp at hi, rfl, rfl, rfl⟩ (Le_lit (by simp [LeL, lk, *])) ?_
  rintro ⟨i, t, K, R, ev⟩ ⟨hi, ht, hI, hK, hR, hev⟩
  simp only at hi ht hI hK hR hev ⊢
  by_cases hil : i < l.length
  rotate_left
  · obtain rfl : i = l.length := by omega
    have g1' : Fact (decide ((l.length : Int) < l.length) = false) := by simp only [Fact, Bool.not_eq_true', Bool.not_eq_false', decide_eq_true_eq, decide_eq_false_iff_not]; omega
    have g2' : Fact (decide ((l.length : Int) = l.length) = true) := by simp only [Fact, Bool.not_eq_true', Bool.not_eq_false', decide_eq_true_eq, decide_eq_false_iff_not]
    have hL := t_chLast c s p m cl hd ((l.length : Int) + 1) t ev (recC R) K hI (by omega)
    rw [hK] at hL
    clear hI hK hR hev hd
    simp (disch := omega) only [tkR_len, chO, ↓Ed, Eu, ↓reduceIte, reduceCtorEq, Nat.reduceAdd, Nat.reduceEqDiff, Nat.reduceLT, Nat.reduceLeDiff, Int.reduceToNat, Int.reduceEq, Int.reduceLT, Int.reduceLE, w64, List.length_append, List.length_map, List.length_cons, List.length_nil, Int.reduceAdd, Nat.zero_add, Nat.mul_one, tkR_len, tkR_get]
    repeat' ((first | refine c2 (hL) ?_ | refine NewB_intro0 (fun b => ?_) | (refine NewB_intro (fun b hb => ?_); simp only [ln_cons2, ln_nil, and_true] at hb) | (with_reducible apply wA; focus exact OM_a) | ((first | refine gW_sp ?_ | refine condW_sp ?_ | refine pickW_sp ?_); (try refine Sp_n ?_); (first | refine wT ?_ | refine wF ?_ | refine wL (fun h h' => ?_) (fun h h' => ?_) | refine wE (fun h h' => ?_) (fun h h' => ?_) | refine Sp_split (fun h => ?_) (fun h => ?_)) <;> (try (exfalso; omega))) | refine TreeW_intro (by rfl) ?_ | refine TreeW_all ?_ | refine upQ_intro ?_ | refine Two_intro ?_ ?_ | exact wZ | fail) <;> (try refine sxLtb ?_) <;> (try exact True.intro))
  have g1' : Fact (decide ((i : Int) < l.length) = true) := by simp only [Fact, Bool.not_eq_true', Bool.not_eq_false', decide_eq_true_eq, decide_eq_false_iff_not]; omega
  obtain ⟨v, hv⟩ : ∃ v, l.getD i 0 = v := ⟨_, rfl⟩
  have hTk := t_chTick c s p cl ((i : Int) + 1) t ev (recC R) ht v
  have ht' := tick_in (n := v) ht
  have hCm := t_chCommit c s p m cl hd (tickT t v) ev hev ht' K hI (by omega) R (by omega)
  have hHd := fun (K' : List RcC) (R' : List (List UInt8)) (hI' : RcI K') (hi' : i < K'.length) => t_chHeader c s p m cl hd (((i + 1 : Nat) : Int) + 1) (tickT t v) (.sl none 13 []) (recC R') K' hI' i hi' (mkC K')
  have e5 : Fact (decide (((i + 1 : Nat) : Int) + 1 = (i : Int) + 2) = true) := by simp only [Fact, Bool.not_eq_true', Bool.not_eq_false', decide_eq_true_eq, decide_eq_false_iff_not]; omega
  have e6 : Fact (decide ((i : Int) + 1 = (i : Int) + 1) = true) := by simp only [Fact, Bool.not_eq_true', Bool.not_eq_false', decide_eq_true_eq, decide_eq_false_iff_not]
  have e7 : Fact (decide (tickT t v = tickT t v) = true) := by simp only [Fact, Bool.not_eq_true', Bool.not_eq_false', decide_eq_true_eq, decide_eq_false_iff_not]
  by_cases h1 : v < 0
  · rw [show tickE t v = 1 by simp [tickE, h1], show tickT t v = t by simp [tickT, tickE, h1]] at hTk
    rw [show tickT t v = t by simp [tickT, tickE, h1]] at hCm hHd e7 ht'
    have f1 : Fact (decide (v < 0) = true) := by simp only [Fact, Bool.not_eq_true', Bool.not_eq_false', decide_eq_true_eq, decide_eq_false_iff_not]; omega
    clear h1
    simp (disch := omega) only [hv, tkR_len, chO, ↓Ed, Eu, ↓reduceIte, reduceCtorEq, Nat.reduceAdd, Nat.reduceEqDiff, Nat.reduceLT, Nat.reduceLeDiff, Int.reduceToNat, Int.reduceEq, Int.reduceLT, Int.reduceLE, w64, List.length_append, List.length_map, List.length_cons, List.length_nil, Int.reduceAdd, Nat.zero_add, Nat.mul_one, tkR_len, tkR_get]
    repeat' ((first | refine c1 (hTk) ?_ | refine c1 (t_chTime _ _ _ _ _ _ _ _) ?_ | refine c1 (t_chHeight _ _ _ _ _ _ _ _) ?_ | (refine c_chCommit (n := i) hK hCm hI (fun K' R' hI' hK' hR' hx1 hx2 => ?_)) | refine NewB_intro0 (fun b => ?_) | (refine NewB_intro (fun b hb => ?_); simp only [ln_cons2, ln_nil, and_true] at hb) | (with_reducible apply wA; focus exact OM_a) | ((first | refine gW_sp ?_ | refine condW_sp ?_ | refine pickW_sp ?_); (try refine Sp_n ?_); (first | refine wT ?_ | refine wF ?_ | refine wL (fun h h' => ?_) (fun h h' => ?_) | refine wE (fun h h' => ?_) (fun h h' => ?_) | refine Sp_split (fun h => ?_) (fun h => ?_)) <;> (try (exfalso; omega))) | refine TreeW_intro (by rfl) ?_ | refine TreeW_all ?_ | refine upQ_intro ?_ | refine Two_intro ?_ ?_ | exact wZ | fail) <;> (try refine sxLtb ?_) <;> (try exact True.intro))
    have hH := hHd K' R' hI' (by omega)
    obtain ⟨x, hx⟩ : ∃ x, (K'.getD i default).x = x := ⟨_, rfl⟩
    rw [hx] at hH hx1 hx2
    have r1 := rt_len x
    have r2 := rt_so x
    have r3 := rt_take x
    have r4 : splice z32 0 x.rt = x.rt := splice_whole z32 _ (by rw [r1]; rfl)
    simp only [z32] at r4
    simp only [HdC.cs] at hH
    clear hx hHd hCm hTk
    obtain ⟨xh, xt, xr, xn⟩ := x
    simp only at hx1 hx2 hH
    subst hx1 hx2
    generalize HdC.rt _ = Z at *
    repeat' ((first | refine c3 (hH) ?_ | refine NewB_intro0 (fun b => ?_) | (refine NewB_intro (fun b hb => ?_); simp only [ln_cons2, ln_nil, and_true] at hb) | (with_reducible apply wA; focus exact OM_a) | ((first | refine gW_sp ?_ | refine condW_sp ?_ | refine pickW_sp ?_); (try refine Sp_n ?_); (first | refine wT ?_ | refine wF ?_ | refine wL (fun h h' => ?_) (fun h h' => ?_) | refine wE (fun h h' => ?_) (fun h h' => ?_) | refine Sp_split (fun h => ?_) (fun h => ?_)) <;> (try (exfalso; omega))) | refine TreeW_intro (by rfl) ?_ | refine TreeW_all ?_ | refine upQ_intro ?_ | refine Two_intro ?_ ?_ | exact wZ | fail) <;> (try refine sxLtb ?_) <;> (try exact True.intro))
    all_goals exact Round_lit (i + 1, _, K', R', .sl none 13 []) ⟨Le_lit ⟨by simp [LeL, lk], by simp [LeL, lk, *]⟩, ⟨hil, ht', hI', hK', by simp only; omega, rfl⟩, by simp only; omega⟩
  by_cases h2 : 1099511627776 - t < v
  · rw [show tickE t v = 19 by simp [tickE, h1, h2], show tickT t v = t by simp [tickT, tickE, h1, h2]] at hTk
    rw [show tickT t v = t by simp [tickT, tickE, h1, h2]] at hCm hHd e7 ht'
    have f1 : Fact (decide (v < 0) = false) := by simp only [Fact, Bool.not_eq_true', Bool.not_eq_false', decide_eq_true_eq, decide_eq_false_iff_not]; omega
    have f2 : Fact (decide (1099511627776 - t < v) = true) := by simp only [Fact, Bool.not_eq_true', Bool.not_eq_false', decide_eq_true_eq, decide_eq_false_iff_not]; omega
    clear h1 h2
    simp (disch := omega) only [hv, tkR_len, chO, ↓Ed, Eu, ↓reduceIte, reduceCtorEq, Nat.reduceAdd, Nat.reduceEqDiff, Nat.reduceLT, Nat.reduceLeDiff, Int.reduceToNat, Int.reduceEq, Int.reduceLT, Int.reduceLE, w64, List.length_append, List.length_map, List.length_cons, List.length_nil, Int.reduceAdd, Nat.zero_add, Nat.mul_one, tkR_len, tkR_get]
    repeat' ((first | refine c1 (hTk) ?_ | refine c1 (t_chTime _ _ _ _ _ _ _ _) ?_ | refine c1 (t_chHeight _ _ _ _ _ _ _ _) ?_ | (refine c_chCommit (n := i) hK hCm hI (fun K' R' hI' hK' hR' hx1 hx2 => ?_)) | refine NewB_intro0 (fun b => ?_) | (refine NewB_intro (fun b hb => ?_); simp only [ln_cons2, ln_nil, and_true] at hb) | (with_reducible apply wA; focus exact OM_a) | ((first | refine gW_sp ?_ | refine condW_sp ?_ | refine pickW_sp ?_); (try refine Sp_n ?_); (first | refine wT ?_ | refine wF ?_ | refine wL (fun h h' => ?_) (fun h h' => ?_) | refine wE (fun h h' => ?_) (fun h h' => ?_) | refine Sp_split (fun h => ?_) (fun h => ?_)) <;> (try (exfalso; omega))) | refine TreeW_intro (by rfl) ?_ | refine TreeW_all ?_ | refine upQ_intro ?_ | refine Two_intro ?_ ?_ | exact wZ | fail) <;> (try refine sxLtb ?_) <;> (try exact True.intro))
    have hH := hHd K' R' hI' (by omega)
    obtain ⟨x, hx⟩ : ∃ x, (K'.getD i default).x = x := ⟨_, rfl⟩
    rw [hx] at hH hx1 hx2
    have r1 := rt_len x
    have r2 := rt_so x
    have r3 := rt_take x
    have r4 : splice z32 0 x.rt = x.rt := splice_whole z32 _ (by rw [r1]; rfl)
    simp only [z32] at r4
    simp only [HdC.cs] at hH
    clear hx hHd hCm hTk
    obtain ⟨xh, xt, xr, xn⟩ := x
    simp only at hx1 hx2 hH
    subst hx1 hx2
    generalize HdC.rt _ = Z at *
    repeat' ((first | refine c3 (hH) ?_ | refine NewB_intro0 (fun b => ?_) | (refine NewB_intro (fun b hb => ?_); simp only [ln_cons2, ln_nil, and_true] at hb) | (with_reducible apply wA; focus exact OM_a) | ((first | refine gW_sp ?_ | refine condW_sp ?_ | refine pickW_sp ?_); (try refine Sp_n ?_); (first | refine wT ?_ | refine wF ?_ | refine wL (fun h h' => ?_) (fun h h' => ?_) | refine wE (fun h h' => ?_) (fun h h' => ?_) | refine Sp_split (fun h => ?_) (fun h => ?_)) <;> (try (exfalso; omega))) | refine TreeW_intro (by rfl) ?_ | refine TreeW_all ?_ | refine upQ_intro ?_ | refine Two_intro ?_ ?_ | exact wZ | fail) <;> (try refine sxLtb ?_) <;> (try exact True.intro))
    all_goals exact Round_lit (i + 1, _, K', R', .sl none 13 []) ⟨Le_lit ⟨by simp [LeL, lk], by simp [LeL, lk, *]⟩, ⟨hil, ht', hI', hK', by simp only; omega, rfl⟩, by simp only; omega⟩
  · rw [show tickE t v = 0 by simp [tickE, h1, h2], show tickT t v = t + v by simp [tickT, tickE, h1, h2]] at hTk
    rw [show tickT t v = t + v by simp [tickT, tickE, h1, h2]] at hCm hHd e7 ht'
    have f1 : Fact (decide (v < 0) = false) := by simp only [Fact, Bool.not_eq_true', Bool.not_eq_false', decide_eq_true_eq, decide_eq_false_iff_not]; omega
    have f2 : Fact (decide (1099511627776 - t < v) = false) := by simp only [Fact, Bool.not_eq_true', Bool.not_eq_false', decide_eq_true_eq, decide_eq_false_iff_not]; omega
    clear e6
    simp (disch := omega) only [hv, tkR_len, chO, ↓Ed, Eu, ↓reduceIte, reduceCtorEq, Nat.reduceAdd, Nat.reduceEqDiff, Nat.reduceLT, Nat.reduceLeDiff, Int.reduceToNat, Int.reduceEq, Int.reduceLT, Int.reduceLE, w64, List.length_append, List.length_map, List.length_cons, List.length_nil, Int.reduceAdd, Nat.zero_add, Nat.mul_one, tkR_len, tkR_get]
    repeat' ((first | refine c1 (hTk) ?_ | refine c1 (t_chTime _ _ _ _ _ _ _ _) ?_ | refine c1 (t_chHeight _ _ _ _ _ _ _ _) ?_ | (refine c_chCommit (n := i) hK hCm hI (fun K' R' hI' hK' hR' hx1 hx2 => ?_)) | refine NewB_intro0 (fun b => ?_) | (refine NewB_intro (fun b hb => ?_); simp only [ln_cons2, ln_nil, and_true] at hb) | (with_reducible apply wA; focus exact OM_a) | ((first | refine gW_sp ?_ | refine condW_sp ?_ | refine pickW_sp ?_); (try refine Sp_n ?_); (first | refine wT ?_ | refine wF ?_ | refine wL (fun h h' => ?_) (fun h h' => ?_) | refine wE (fun h h' => ?_) (fun h h' => ?_) | refine Sp_split (fun h => ?_) (fun h => ?_)) <;> (try (exfalso; omega))) | refine TreeW_intro (by rfl) ?_ | refine TreeW_all ?_ | refine upQ_intro ?_ | refine Two_intro ?_ ?_ | exact wZ | fail) <;> (try refine sxLtb ?_) <;> (try exact True.intro))
    have hH := hHd K' R' hI' (by omega)
    obtain ⟨x, hx⟩ : ∃ x, (K'.getD i default).x = x := ⟨_, rfl⟩
    rw [hx] at hH hx1 hx2
    have r1 := rt_len x
    have r2 := rt_so x
    have r3 := rt_take x
    have r4 : splice z32 0 x.rt = x.rt := splice_whole z32 _ (by rw [r1]; rfl)
    simp only [z32] at r4
    simp only [HdC.cs] at hH
    clear hx hHd hCm hTk
    obtain ⟨xh, xt, xr, xn⟩ := x
    simp only at hx1 hx2 hH
    subst hx1 hx2
    generalize HdC.rt _ = Z at *
    repeat' ((first | refine c3 (hH) ?_ | refine NewB_intro0 (fun b => ?_) | (refine NewB_intro (fun b hb => ?_); simp only [ln_cons2, ln_nil, and_true] at hb) | (with_reducible apply wA; focus exact OM_a) | ((first | refine gW_sp ?_ | refine condW_sp ?_ | refine pickW_sp ?_); (try refine Sp_n ?_); (first | refine wT ?_ | refine wF ?_ | refine wL (fun h h' => ?_) (fun h h' => ?_) | refine wE (fun h h' => ?_) (fun h h' => ?_) | refine Sp_split (fun h => ?_) (fun h => ?_)) <;> (try (exfalso; omega))) | refine TreeW_intro (by rfl) ?_ | refine TreeW_all ?_ | refine upQ_intro ?_ | refine Two_intro ?_ ?_ | exact wZ | fail) <;> (try refine sxLtb ?_) <;> (try exact True.intro))
    all_goals exact Round_lit (i + 1, _, K', R', .sl none 13 []) ⟨Le_lit ⟨by simp [LeL, lk], by simp [LeL, lk, *]⟩, ⟨hil, ht', hI', hK', by simp only; omega, rfl⟩, by simp only; omega⟩
end Go.Proofs.YtmmmbmljompamaaGreatDoor

namespace Go.Proofs.YtmmmbmljompamaaGreatDoor
set_option linter.all false
open Go.RowKit Go.WideShapes Go.ChangeShapes

def chainB (P : Program) : Nat → List Field → Option Nat
  | a, [] => some a
  | a, f :: fs => if f.offset = a then chainB P (a + P.cellsOf f.type) fs else none
def flatB (P : Program) : Nat → TypeId → Bool
  | 0, _ => false
  | n + 1, t => match P.underlying t with
    | some .bool => true
    | some (.int _) => true
    | some .string => true
    | some (.struct fs) => decide (chainB P 0 fs.toList = some (P.cellsOf t)) && fs.toList.all fun f => flatB P n f.type
    | some (.slice e) => decide (0 < P.cellsOf e) && flatB P n e
    | some (.array m e) => decide (P.cellsOf t = m * P.cellsOf e) && flatB P n e
    | _ => false
def TVF (R : TypeId → List AV → Prop) : List Field → List AV → Prop
  | [], l => l = []
  | f :: fs, l => ∃ p q, R f.type p ∧ TVF R fs q ∧ l = p ++ q
def TV (P : Program) : Nat → TypeId → List AV → Prop
  | 0, _, _ => False
  | n + 1, t, l => match P.underlying t with
    | some .bool => ∃ b, l = [.bool b]
    | some (.int k) => ∃ m, l = [.int k m] ∧ (Lit.int k m).wf = true
    | some .string => ∃ s, l = [.str s] ∧ s.length ≤ maxLen
    | some (.struct fs) => TVF (TV P n) fs.toList l
    | some (.slice e) => ∃ els, l = [.sl none (P.cellsOf e) els] ∧ els.length ≤ maxLen ∧ ∀ c ∈ els, TV P n e c
    | some (.array m e) => ∃ els : List (List AV), l = els.flatten ∧ els.length = m ∧ ∀ c ∈ els, TV P n e c
    | _ => False
def TA (P : Program) (n : Nat) (t : TypeId) (a : AV) : Prop := match P.underlying t with
  | some (.struct _) => ∃ l, a = .agg l ∧ TV P n t l
  | some (.array _ _) => ∃ l, a = .agg l ∧ TV P n t l
  | _ => TV P n t [a]
def TAs (P : Program) (n : Nat) : List TypeId → List AV → Prop
  | [], l => l = []
  | t :: ts, l => ∃ a q, TA P n t a ∧ TAs P n ts q ∧ l = a :: q

structure VRs (W : World) (U : Nat → Nat → Prop) (cs : List Value) (l : List AV) : Prop where
  len : cs.length = l.length
  vr : ∀ (i : Nat) (v : Value) (c : AV), cs[i]? = some v → l[i]? = some c → VR W U v c
  one : ∀ v ∈ cs, v.oneCell' = true
section
variable {W : World} {U : Nat → Nat → Prop}
theorem VRs.nil : VRs W U [] [] := ⟨rfl, fun i v c h => by simp at h, fun v h => by simp at h⟩
theorem VRs.one1 {v : Value} {c : AV} (h : VR W U v c) (h1 : v.oneCell' = true) : VRs W U [v] [c] :=
  ⟨rfl, fun i v' c' hv hc => by
    cases i with
    | zero => simp at hv hc; subst hv; subst hc; exact h
    | succ i => simp at hv, fun v' hv => by simp at hv; subst hv; exact h1⟩
theorem VRs.append {a b : List Value} {l m : List AV} (h : VRs W U a l) (g : VRs W U b m) : VRs W U (a ++ b) (l ++ m) := by
  refine ⟨by simp [h.len, g.len], fun i v c hv hc => ?_, fun v hv => ?_⟩
  · by_cases hi : i < a.length
    · rw [List.getElem?_append_left hi] at hv
      rw [List.getElem?_append_left (by have := h.len; omega)] at hc
      exact h.vr i v c hv hc
    · rw [List.getElem?_append_right (by omega)] at hv
      rw [List.getElem?_append_right (by have := h.len; omega), ← h.len] at hc
      exact g.vr _ v c hv hc
  · rcases List.mem_append.1 hv with hv | hv
    · exact h.one v hv
    · exact g.one v hv
end

theorem list_of {α : Type} {R : Nat → α → Prop} : ∀ (n : Nat), (∀ i, i < n → ∃ a, R i a) → ∃ l : List α, l.length = n ∧ ∀ i a, l[i]? = some a → R i a
  | 0, _ => ⟨[], rfl, fun i a h => by simp at h⟩
  | n + 1, h => by
    obtain ⟨l, hl, hr⟩ := list_of n (fun i hi => h i (by omega))
    obtain ⟨a, ha⟩ := h n (by omega)
    refine ⟨l ++ [a], by simp [hl], fun i b hb => ?_⟩
    by_cases hi : i < n
    · rw [List.getElem?_append_left (by omega)] at hb; exact hr i b hb
    · rw [List.getElem?_append_right (by omega)] at hb
      have hin : i = n := by
        by_cases h0 : i - l.length = 0
        · omega
        · have : (i - l.length) = (i - l.length - 1) + 1 := by omega
          rw [this] at hb; simp at hb
      subst hin
      simp [hl] at hb
      exact hb ▸ ha

section
variable {H : Type} {enc : TypeId × Value → H} {P : Program} {W : World} {base : Nat} {spare : Nat → Bool} {held : Bool} {U : Nat → Nat → Prop}

theorem open_fields {R : TypeId → List AV → Prop} (cs : List Value) :
    ∀ (fs : List Field) (a tot : Nat), chainB P a fs = some tot → cs.length = tot → (∀ f ∈ fs, ∃ p, R f.type p ∧ VRs W U ((cs.drop f.offset).take (P.cellsOf f.type)) p ) →
      ∃ l, TVF R fs l ∧ VRs W U (cs.drop a) l
  | [], a, tot, h, hl, _ => by
    simp only [chainB, Option.some.injEq] at h
    subst h
    exact ⟨[], rfl, by rw [List.drop_eq_nil_of_le (by omega)]; exact VRs.nil⟩
  | f :: fs, a, tot, h, hl, hf => by
    simp only [chainB] at h
    split at h
    · rename_i ha
      obtain ⟨p, h1, h2⟩ := hf f (by simp)
      obtain ⟨q, g1, g2⟩ := open_fields cs fs _ tot h hl (fun g hg => hf g (by simp [hg]))
      refine ⟨p ++ q, ⟨p, q, h1, g1, rfl⟩, ?_⟩
      have e : cs.drop a = (cs.drop a).take (P.cellsOf f.type) ++ cs.drop (a + P.cellsOf f.type) := by
        rw [← List.drop_drop, List.take_append_drop]
      rw [e]
      rw [ha] at h2
      exact h2.append g2
    · cases h

theorem open_elems {ce : Nat} : ∀ (els : List (List AV)) (cs : List Value), cs.length = els.length * ce → (∀ (i : Nat) (l : List AV), els[i]? = some l → VRs W U ((cs.drop (i * ce)).take ce) l) → VRs W U cs els.flatten
  | [], cs, hl, _ => by
    have : cs = [] := List.length_eq_zero_iff.1 (by simpa using hl)
    subst this; exact VRs.nil
  | e :: els, cs, hl, h => by
    have h0 := h 0 e rfl
    simp only [Nat.zero_mul, List.drop_zero] at h0
    have hr := open_elems (ce := ce) els (cs.drop ce) (by simp only [List.length_cons, Nat.add_mul] at hl; simp; omega) fun i l hi => by
      have := h (i + 1) l (by simpa using hi)
      rw [Nat.add_mul, Nat.one_mul, Nat.add_comm, ← List.drop_drop] at this
      exact this
    have := h0.append hr
    rwa [List.take_append_drop] at this

theorem open_flat (hU : ∀ b o, ¬ U b o) : ∀ (n : Nat) (t : TypeId) (cs : List Value) (fuel : Nat) (x : DataW H × List MemPlace), flatB P n t = true → DataW.trod enc P W base spare held fuel t cs = some x →
    ∃ l, TV P n t l ∧ VRs W U cs l
  | 0, t, cs, fuel, x, hf, h => by simp [flatB] at hf
  | n + 1, t, cs, fuel, x, hf, h => by
    unfold flatB at hf
    unfold TV
    split at hf
    · rename_i ht
      obtain ⟨b, rfl, _⟩ := DataW.trod_bool ht h
      exact ⟨_, ⟨b, rfl⟩, VRs.one1 (.bool b) rfl⟩
    · rename_i k ht
      obtain ⟨m, rfl, _, hw⟩ := DataW.trod_int ht h
      exact ⟨_, ⟨m, rfl, hw⟩, VRs.one1 (.int k m) rfl⟩
    · rename_i ht
      obtain ⟨s, rfl, _, hs⟩ := DataW.trod_string ht h
      obtain ⟨⟨l⟩⟩ := s
      exact ⟨_, ⟨l, rfl, hs⟩, VRs.one1 (.str l) rfl⟩
    · rename_i fs ht
      simp only [Bool.and_eq_true, decide_eq_true_eq, List.all_eq_true] at hf
      obtain ⟨hch, hall⟩ := hf
      obtain ⟨xs, m, _, _, hlen, hxl, hfi⟩ := DataW.trod_struct ht h
      have := open_fields (W := W) (U := U) (R := TV P n) cs fs.toList 0 _ hch hlen (fun f hfm => ?_)
      · simpa using this
      obtain ⟨i, hi, hfe⟩ := List.getElem_of_mem hfm
      have hfi' := hfi i f (by rw [← hfe]; simp at hi; simp [hi])
      have hxi : xs[i]? = some (xs[i]'(by simp at hi; omega)) := List.getElem?_eq_getElem _
      rw [hxi] at hfi'
      obtain ⟨p, h1, h2⟩ := open_flat hU n f.type _ _ _ (hall f hfm) hfi'
      exact ⟨p, h1, h2⟩
    · rename_i e ht
      simp only [Bool.and_eq_true, decide_eq_true_eq] at hf
      obtain ⟨hpos, hfe⟩ := hf
      rcases Go.Deep.open_slice ht h with ⟨rfl, _⟩ | ⟨a, len, cap, m, n', D, Pl, rfl, _, hl, hm, hmm, _, hi⟩
      · refine ⟨_, ⟨[], rfl, by simp, by simp⟩, VRs.one1 ?_ rfl⟩
        exact .sl none 0 none [] 0 0 (P.cellsOf e) (fun _ _ => undef) (by simp) (by simp) (by simp) (by simp) (by simp) (by simp)
      · have hlm : len ≤ m := by rw [hmm]; split <;> omega
        obtain ⟨els, hel, hr⟩ := list_of (R := fun i l => TV P n e l ∧ ∃ cs', W.cells? base (a.add (i * P.cellsOf e)) (P.cellsOf e) = some cs' ∧ VRs W U cs' l) len (fun i hil => by
          obtain ⟨cs', hc, ht'⟩ := hi i (by omega)
          obtain ⟨l, h1, h2⟩ := open_flat hU n e _ _ _ hfe ht'
          exact ⟨l, h1, cs', hc, h2⟩)
        refine ⟨_, ⟨els, rfl, by omega, fun c hc => ?_⟩, VRs.one1 ?_ rfl⟩
        · obtain ⟨i, hi', rfl⟩ := List.getElem_of_mem hc
          exact (hr i _ (List.getElem?_eq_getElem hi')).1
        · obtain ⟨b, o, spot⟩ := a
          have hcell : ∀ i j, i < els.length → j < P.cellsOf e → ∃ v, W.cell? ⟨b, o + i * P.cellsOf e + j, none⟩ = some v ∧ v.oneCell' = true ∧ (∀ c, (els[i]?.bind (·[j]?)) = some c → VR W U v c) ∧ (0 < len → spot = none) := by
            intro i j hi' hj
            obtain ⟨_, cs', hc, hv⟩ := hr i _ (List.getElem?_eq_getElem hi')
            obtain ⟨_, hcl, hat⟩ := World.cells?_some hc
            have hcj := hat j hj
            have hjl : cs'[j]? = some (cs'[j]'(by omega)) := List.getElem?_eq_getElem _
            rw [hjl] at hcj
            have hsp : 0 < len → spot = none := fun h0 => by
              obtain ⟨cs0, hc0, _⟩ := hi 0 (by omega)
              obtain ⟨_, hcl0, hat0⟩ := World.cells?_some hc0
              have := hat0 0 hpos
              rw [show cs0[0]? = some (cs0[0]'(by omega)) from List.getElem?_eq_getElem _] at this
              have := World.cell?_spot this
              simpa [Addr.add] using this
            have hs0 := hsp (by omega)
            subst hs0
            have ea : ((⟨b, o, none⟩ : Addr).add (i * P.cellsOf e)).add j = ⟨b, o + i * P.cellsOf e + j, none⟩ := by
              rw [Go.Deep.add_add]
              unfold Addr.add
              split
              · rename_i h0; first | (simp; done) | (simp; omega)
              · simp [Nat.add_assoc]
            rw [ea] at hcj
            refine ⟨_, hcj, hv.one _ (List.getElem_mem _), fun c hc' => ?_, hsp⟩
            rw [List.getElem?_eq_getElem hi'] at hc'
            exact hv.vr j _ c hjl hc'
          rw [← hel] at hl ⊢
          have hsz : ∀ l ∈ els, l.length = P.cellsOf e := fun l hl' => by
            obtain ⟨i, hi', rfl⟩ := List.getElem_of_mem hl'
            obtain ⟨_, cs', hc, hv⟩ := hr i _ (List.getElem?_eq_getElem hi')
            rw [← hv.len]
            exact (World.cells?_some hc).2.1
          refine .sl _ cap none els b o (P.cellsOf e) (fun i j => (W.cell? ⟨b, o + i * P.cellsOf e + j, none⟩).getD undef) hl hm (fun h0 => ?_) hsz (fun i j hi' hj => ?_) (fun i l j c hl' hc => ?_)
          · obtain ⟨v, _, _, _, hs⟩ := hcell 0 0 h0 hpos
            rw [hs (by omega)]
          · obtain ⟨v, h1, h2, _⟩ := hcell i j hi' hj
            rw [h1]
            exact ⟨rfl, h2, hU _ _⟩
          · have hi' : i < els.length := (List.getElem?_eq_some_iff.1 hl').1
            have hj : j < P.cellsOf e := by rw [← hsz l (List.mem_of_getElem? hl')]; exact (List.getElem?_eq_some_iff.1 hc).1
            obtain ⟨v, h1, _, h3, _⟩ := hcell i j hi' hj
            rw [h1]
            exact h3 c (by rw [hl']; exact hc)
    · rename_i m e ht
      simp only [Bool.and_eq_true, decide_eq_true_eq] at hf
      obtain ⟨hsz, hfe⟩ := hf
      obtain ⟨xs, m', _, _, hlen, hxl, hfi⟩ := DataW.trod_array ht h
      obtain ⟨els, hel, hr⟩ := list_of (R := fun i l => TV P n e l ∧ VRs W U ((cs.drop (i * P.cellsOf e)).take (P.cellsOf e)) l) m (fun i hi => by
        have h1 := hfi i hi
        rw [show xs[i]? = some (xs[i]'(by omega)) from List.getElem?_eq_getElem _] at h1
        exact open_flat hU n e _ _ _ hfe h1)
      refine ⟨_, ⟨els, rfl, hel, fun c hc => ?_⟩, open_elems els cs (by rw [hlen, hsz, hel]) fun i l hi => (hr i l hi).2⟩
      obtain ⟨i, hi', rfl⟩ := List.getElem_of_mem hc
      exact (hr i _ (List.getElem?_eq_getElem hi')).1
    · cases hf

theorem okWide_array {r : Reach} {b0 m : Nat} {t e : TypeId} {v : Value} (ht : P.underlying t = some (.array m e)) (h : Value.okWide P W r b0 t v) : ∃ cs, v = .agg cs ∧ cs.size = P.cellsOf t := by
  unfold Value.okWide at h
  rw [ht] at h
  obtain ⟨cs, h1, h2, _⟩ := h
  exact ⟨cs, h1, h2⟩
theorem open_arg (hU : ∀ b o, ¬ U b o) {r : Reach} {b0 n : Nat} {t : TypeId} {v : Value} {d : DataW H} {ps : List MemPlace} (hf : flatB P n t = true) (hval : Value.okWide P W r b0 t v) (hd : DataW.Trod enc P W base spare held t v d ps) :
    ∃ a, TA P n t a ∧ VR W U v a := by
  obtain ⟨fuel, hd⟩ := hd
  obtain ⟨l, h1, h2⟩ := open_flat (U := U) hU n t _ _ _ hf hd
  cases n with
  | zero => simp [flatB] at hf
  | succ n =>
    have key : ∀ w : Value, w.cells.toList = [w] → v = w → ∀ a, l = [a] → VR W U v a := fun w hw hv a ha => by
      subst hv; subst ha
      exact h2.vr 0 v a (by rw [hw]; rfl) rfl
    unfold TA
    unfold flatB at hf
    have h1' := h1
    unfold TV at h1
    split at hf
    · rename_i ht
      rw [ht] at h1 ⊢
      obtain ⟨b, rfl⟩ := h1
      obtain ⟨b', rfl⟩ : ∃ b', v = .bool b' := by
        simp only [Value.okWide, ht, Cell.okWide] at hval
        cases v <;> simp_all [Cell.ok]
      exact ⟨_, h1', key _ rfl rfl _ rfl⟩
    · rename_i k ht
      rw [ht] at h1 ⊢
      obtain ⟨m, rfl, _⟩ := h1
      obtain ⟨m', rfl⟩ := okWide_int ht hval
      exact ⟨_, h1', key _ rfl rfl _ rfl⟩
    · rename_i ht
      rw [ht] at h1 ⊢
      obtain ⟨s, rfl, _⟩ := h1
      obtain ⟨s', rfl⟩ := okWide_string ht hval
      exact ⟨_, h1', key _ rfl rfl _ rfl⟩
    · rename_i fs ht
      rw [ht]
      obtain ⟨cs, rfl, _⟩ := okWide_struct ht hval
      refine ⟨_, ⟨l, rfl, h1'⟩, ?_⟩
      obtain ⟨cs⟩ := cs
      exact .agg cs l h2.len h2.vr h2.one
    · rename_i e ht
      rw [ht] at h1 ⊢
      obtain ⟨els, rfl, _⟩ := h1
      obtain ⟨a, len, cap, rfl⟩ := okWide_slice ht hval
      exact ⟨_, h1', key _ rfl rfl _ rfl⟩
    · rename_i m e ht
      rw [ht]
      obtain ⟨cs, rfl, _⟩ := okWide_array ht hval
      refine ⟨_, ⟨l, rfl, h1'⟩, ?_⟩
      obtain ⟨cs⟩ := cs
      exact .agg cs l h2.len h2.vr h2.one
    · cases hf

theorem open_args (hU : ∀ b o, ¬ U b o) {r : Reach} {b0 n : Nat} : ∀ {ts : List TypeId} {vs : List Value} {ds : List (DataW H)} {ps : List MemPlace}, (∀ t ∈ ts, flatB P n t = true) →
    (∀ (j : Nat) t v, ts[j]? = some t → vs[j]? = some v → Value.okWide P W r b0 t v) → DataW.TrodAll enc P W base spare held ts vs ds ps →
    ∃ l, TAs P n ts l ∧ vs.length = l.length ∧ ∀ (i : Nat) (v : Value) (c : AV), vs[i]? = some v → l[i]? = some c → VR W U v c
  | [], vs, ds, ps, _, _, h => by
    cases vs with
    | nil => exact ⟨[], rfl, rfl, fun i v c h => by simp at h⟩
    | cons v vs => cases ds <;> exact h.elim
  | t :: ts, vs, ds, ps, hf, hval, h => by
    cases vs with
    | nil => cases ds <;> exact h.elim
    | cons v vs =>
      cases ds with
      | nil => exact h.elim
      | cons d ds =>
        obtain ⟨p, q, h1, h2, _⟩ := h
        obtain ⟨a, ha, hv⟩ := open_arg (U := U) hU (hf t (by simp)) (hval 0 t v rfl rfl) h1
        obtain ⟨l, hl, hlen, hvr⟩ := open_args hU (fun t' ht' => hf t' (by simp [ht'])) (fun j t' v' h3 h4 => hval (j + 1) t' v' h3 h4) h2
        refine ⟨a :: l, ⟨a, l, ha, hl, rfl⟩, by simp [hlen], fun i w c h3 h4 => ?_⟩
        cases i with
        | zero => simp at h3 h4; subst h3; subst h4; exact hv
        | succ i => exact hvr i w c h3 h4

theorem args_stay (hl : laidOutB P = true) {W' : World} (hb : Below W.heap.size W W') {sp' : Nat → Bool} : ∀ {ts : List TypeId} {vs : List Value} {ds : List (DataW H)} {ps : List MemPlace}, (∀ t ∈ ts, P.readableRec t = true ∧ t < P.types.size) →
    DataW.TrodAll enc P W 0 (fun _ => true) true ts vs ds ps → (∀ x ∈ ps, x.block < W.heap.size) → (∀ x ∈ ps, sp' x.block = true) → DataW.TrodAll enc P W' 0 sp' true ts vs ds ps
  | [], vs, ds, ps, _, h, _, _ => by cases vs <;> cases ds <;> exact h
  | t :: ts, vs, ds, ps, ht, h, hlt, hsp => by
    cases vs with
    | nil => cases ds <;> exact h.elim
    | cons v vs =>
      cases ds with
      | nil => exact h.elim
      | cons d ds =>
        obtain ⟨p, q, h1, h2, rfl⟩ := h
        refine ⟨p, q, ?_, args_stay hl hb (fun t' ht' => ht t' (by simp [ht'])) h2 (fun x hx => hlt x (by simp [hx])) (fun x hx => hsp x (by simp [hx])), rfl⟩
        exact WideElems.Trod_stays hl (ht t (by simp)).1 (ht t (by simp)).2 h1 (fun x hx => hb.same (hlt x (by simp [hx]))) (fun x hx => hsp x (by simp [hx]))

theorem post_of_below {f : Func} {s : ChangeSpec} {apart fresh handsOn again : Bool} {W W' : World} {args : Array Value} {v : Value} {ds gs : List (DataW H)} {before pa pv : List MemPlace}
    (hW : DataW.Whole enc P f.params.toList s.vars apart W args.toList ds gs before)
    (hres : ∀ (b : Nat) (sp : Nat → Bool) (hd : Bool), DataW.TrodAll enc P W' b sp hd f.resultTypes.toList (v.resultList f.resultTypes.size) (s.fn H (ds ++ gs)).results [])
    (hargs : ∀ sp : Nat → Bool, (∀ p ∈ before, sp p.block = true) → DataW.TrodAll enc P W' 0 sp true f.params.toList args.toList (s.fn H (ds ++ gs)).args pa)
    (hvars : ∀ sp : Nat → Bool, (∀ p ∈ before, sp p.block = true) → DataW.TrodVars enc P W' sp s.vars (s.fn H (ds ++ gs)).vars pv)
    (hps : before = pa ++ pv) (hb : Below W.heap.size W W')
    (hok : ∀ (j : Nat) (t : TypeId) (r : Value), f.resultTypes[j]? = some t → (v.resultList f.resultTypes.size)[j]? = some r → Value.okWide P W' .any 0 t r) :
    s.post enc P f apart fresh handsOn again W args v W' := by
  have hlt : ∀ p ∈ before, p.block < W.heap.size := fun p hp => hW.lt p hp
  have hold : ∀ p ∈ before, (fun b => decide (b < W.heap.size)) p.block = true := fun p hp => by simpa using hlt p hp
  refine ⟨ds, gs, before, [], pa, pv, hW, hres _ _ _, hargs _ hold, hvars _ hold, World.keptBut_mono (fun p hp => ⟨hp, ?_⟩) (hb.frame (· ∈ before)), fun _ => ?_⟩
  · rw [hps, List.mem_append] at hp
    exact Or.inr hp
  · obtain ⟨_, _, _, _, _, hz, hn⟩ := hW
    refine ⟨hok, _, _, ([] ++ pa) ++ pv, ⟨[] ++ pa, pv, trodAll_append (hargs _ (fun _ _ => rfl)) (hres _ _ _), hvars _ (fun _ _ => rfl), rfl, ?_, ?_⟩, ?_⟩
    · intro b off hp
      have hin : MemPlace.cell b off ∈ before := by rw [hps]; simpa using hp
      rw [hb.frozen (hlt _ hin)]
      exact hz b off hin
    · intro ha
      have := hn ha
      rw [hps] at this
      simpa using this
    · intro p hp _
      rw [hps]
      simpa using hp
theorem row_of_CP {f : Func} {N n tb : Nat} {s : ChangeSpec} {args : Array Value} {ds gs : List (DataW H)} {before : List MemPlace} (hl : laidOutB P = true)
    (hread : f.params.toList.all (fun t => P.readableRec t && decide (t < P.types.size) && flatB P n t) = true) (hrt : f.resultTypes = #[tb]) (htb : P.underlying tb = some .bool) (hvars : s.vars = [])
    (hfn : gs = [] → ds.length = f.params.size → (s.fn H (ds ++ gs)).results = [.lit (.bool true)] ∧ (s.fn H (ds ++ gs)).args = ds ∧ (s.fn H (ds ++ gs)).vars = [])
    (hval : ∀ (j : Nat) t v, f.params[j]? = some t → args[j]? = some v → Value.okWide P W .any base t v)
    (hW : DataW.Whole enc P f.params.toList s.vars false W args.toList ds gs before)
    (hG : Glob W fun _ _ => False) (hCP : ∀ l, TAs P n f.params.toList l → CP P N l (.bool true)) :
    Calls P N args W fun e W' => ∃ v, e = .returned v ∧ s.post enc P f false true false false W args v W' := by
  have hW' := hW
  obtain ⟨p, q, hA, hV, rfl, hfz, hnd⟩ := hW
  simp only [List.all_eq_true, Bool.and_eq_true, decide_eq_true_eq] at hread
  have hgs : gs = [] ∧ q = [] := by
    rw [hvars] at hV
    cases gs with
    | nil => exact ⟨rfl, hV⟩
    | cons g gs => exact hV.elim
  obtain ⟨rfl, rfl⟩ := hgs
  obtain ⟨l, hl1, hl2, hl3⟩ := open_args (U := fun _ _ => False) (fun _ _ h => h) (fun t ht => (hread t ht).2) (fun j t v h1 h2 => hval j t v (by simpa using h1) (by simpa using h2)) hA
  have hds : ds.length = f.params.size := by
    have : ∀ {ts : List TypeId} {vs : List Value} {ds : List (DataW H)} {ps : List MemPlace}, DataW.TrodAll enc P W 0 (fun _ => true) true ts vs ds ps → ds.length = ts.length := by
      intro ts
      induction ts with
      | nil => intro vs ds ps h; cases vs <;> cases ds <;> first | rfl | exact h.elim
      | cons t ts ih =>
        intro vs ds ps h
        cases vs <;> cases ds <;> first | exact h.elim | skip
        obtain ⟨p, q, _, h2, _⟩ := h
        simp [ih h2]
    simpa using this hA
  obtain ⟨f1, f2, f3⟩ := hfn rfl hds
  have hc := hCP l hl1 W (fun _ _ => False) args.toList hG hl2 hl3
  have ea : args.toList.toArray = args := by simp
  rw [ea] at hc
  refine Calls.mono hc fun e W' => ?_
  rintro ⟨v, U', rfl, hv, _, hx⟩
  cases hv
  refine ⟨_, rfl, post_of_below hW' (pa := p) (pv := []) (fun _ _ _ => ?_) (fun sp hsp => ?_) (fun _ _ => ?_) rfl hx.b ?_⟩
  · rw [hrt, f1]
    exact trodAll_mk1 (shut_bool htb true)
  · rw [f2]
    exact args_stay hl hx.b (fun t ht => (hread t ht).1) hA (fun x hx => hW'.lt x (by simpa using hx)) (fun x hx => hsp x (by simpa using hx))
  · rw [hvars, f3]; rfl
  · exact ok_one hrt rfl (okWide_bool_mk htb _)
end
end Go.Proofs.YtmmmbmljompamaaGreatDoor

namespace Go.Proofs.YtmmmbmljompamaaGreatDoor
set_option linter.all false
open Go Go.RowKit
set_option maxRecDepth 100000
section
variable {H : Type} {enc : TypeId × Value → H}
theorem hand_and_shaped {a : Assume} {C : Checked} {os : Os} {f : FuncId} {fn : Func} {s : ChangeSpec} {conds : List PathCond} {apart fresh handsOn again : Bool} {X : World → Array Value → Prop}
    (hX : ∀ (w w' : World) (args : Array Value), w.heap = w'.heap → X w args → X w' args)
    (own : ownKnob C.prog.godebug = none) (started : os.Started) (noInit : C.prog.inits.idxOf? f = none) (hfn : C.prog.funcs[f]? = some fn)
    (witness : ∃ (w : World) (tape : Tape) (i : Input), w.os = os ∧ (w.forCall tape i).Shaped C.prog ∧ i.vars = [] ∧ Input.okWide C.prog (w.forCall tape i) .any w.heap.size f i ∧
      ((s.pre enc C.prog fn conds apart (w.forCall tape i).memory i.args ∧ X (w.forCall tape i).memory i.args) ∧ sizedMet enc C.prog fn (OpenSpec.ofChange s) apart (w.forCall tape i).memory i.args) ∧ a.holds C.prog (lone (Frame.enter C.prog f i.args .normal) [] (w.forCall tape i)))
    (contract : ∀ (W : World) (base : Nat) (args : Array Value) (ds gs : List (DataW H)) (before : List MemPlace),
      (∀ (j : Nat) t v, fn.params[j]? = some t → args[j]? = some v → Value.okWide C.prog W .any base t v) →
      DataW.Whole enc C.prog fn.params.toList s.vars apart W args.toList ds gs before →
      conds.all (PathCond.test C.prog ⟨fn.params.toList, ds, s.plain.varTypes C.prog, gs⟩) = true →
      (DataW.weightsEach C.prog (fn.params.toList ++ s.plain.varTypes C.prog) (ds ++ gs)).all (· ≤ reachBytes) = true → X W args → W.ShapedOpen C.prog →
      a.holds C.prog (lone (Frame.enter C.prog f args .normal) [] W) →
      Calls C.prog f args W fun e W' => ∃ v, e = .returned v ∧ s.post enc C.prog fn apart fresh handsOn again W args v W') :
    ReturnsInHanded a C os f .any (fun w args => (s.pre enc C.prog fn conds apart w args ∧ X w args) ∧ sizedMet enc C.prog fn (OpenSpec.ofChange s) apart w args) (s.post enc C.prog fn apart fresh handsOn again) := by
  refine returnsInHanded_of_calls own started noInit witness ?_
  intro w tape i _ hsh _ hok hpre hholds
  obtain ⟨_, _, _, fn', hfn', _, _, _, _, hval⟩ := hok
  have e : fn' = fn := Option.some.inj (hfn'.symm.trans hfn)
  subst e
  obtain ⟨⟨⟨ds, gs, before, hw, hc⟩, hx⟩, hz⟩ := hpre
  have hw' := DataW.Whole.of_heap (w' := w.forCall tape i) (by rfl) hw
  refine (contract (w.forCall tape i) w.heap.size i.args ds gs before hval hw' hc (hz.weights hw) (hX _ _ _ (by rfl) hx) hsh hholds).mono fun e W' ⟨v, he, hp⟩ => ?_
  subst he
  exact ChangeSpec.post_blind hp
end
theorem glob_of {W : World} (h : laidMetH Tryz.prog Rows.chainTicksRow.laid W) (_hsh : W.ShapedOpen Tryz.prog) : Glob W fun _ _ => False := by
  rw [MakeChecks.laidMetH_plain _ _ _ (by kernel_rfl)] at h
  have h3 : laidMet Tryz.prog (("lighterman/sha.steps", Lib.tabData .u32 (tabInts.getD 0 default).2.2) :: _) W := h.tail.tail.tail
  have hp := Lib.tabIs_of_head (g := 0) (t := 166) (e := 141) (n := 64) (by kernel_rfl) (by kernel_rfl) (by kernel_rfl) (by kernel_rfl) (by kernel_rfl) (by kernel_rfl) h3
  intro x hx
  refine ⟨?_, fun _ h => h⟩
  obtain ⟨y, hy, rfl⟩ : ∃ y ∈ tabInts, (fun x : Nat × IntKind × List Int => (x.1, fun cs : Array Value => cs = (x.2.2.map fun z => Value.int x.2.1 z).toArray)) y = x := by
    unfold globTabs at hx
    rw [List.append_nil] at hx
    exact List.mem_map.1 hx
  obtain rfl : y = tabInts.getD 0 default := List.mem_singleton.1 hy
  have hg : Tryz.prog.globalNamed "lighterman/sha.steps" = some 0 := by kernel_rfl
  simp only [Lib.TabIs, World.var?, hg, Option.bind_some] at hp
  split at hp
  · rename_i cs ty fr e
    exact ⟨cs, ty, fr, e, Option.some.inj hp⟩
  · cases hp
end Go.Proofs.YtmmmbmljompamaaGreatDoor
