import Derived.Test.YtobopbjedojebaaK8
/- The abstract machine: orders told apart: a slot that was written twice counts once. -/
namespace Go.Proofs.Ytobopbjedojebaa
set_option linter.all false
open Go.RowKit
def LeS {α : Type} (sn : List Nat) : List (Nat × α) → (Nat → Option α) → Prop
  | [], _ => True
  | (k, v) :: r, f => (k ∈ sn ∨ f k = some v) ∧ LeS (k :: sn) r f
theorem LeS_ok {α : Type} {f : Nat → Option α} : ∀ {l : List (Nat × α)} {sn : List Nat}, LeS sn l f → ∀ i v, i ∉ sn → lk l i = some v → f i = some v
  | [], _, _, i, v, _, h => by simp [lk] at h
  | (k, w) :: r, sn, ⟨h1, h2⟩, i, v, hn, h => by
    rw [lk] at h
    split at h
    · rename_i e
      subst e
      cases h
      exact h1.resolve_left hn
    · rename_i e
      exact LeS_ok h2 i v (by rw [List.mem_cons, not_or]; exact ⟨e, hn⟩) h
theorem leK_dd {a : List (Nat × AV)} {b : List (Nat × List AV)} {s : St} (h : LeS [] a s.t ∧ LeL b s.o) : leK ⟨lk a, lk b⟩ s := ⟨fun i v e => LeS_ok h.1 i v (by simp) e, LeL_ok h.2⟩
theorem lk_sub2 {b c : Nat} {cs ds : List AV} {o : Nat → Option (List AV)} (h : o b = some cs) (g : o c = some ds) : ∀ b' cs', lk [(b, cs), (c, ds)] b' = some cs' → o b' = some cs' := by
  intro b' cs' h'
  rw [lk_cons, lk_cons] at h'
  by_cases hb : b' = b
  · subst hb; rw [if_pos rfl] at h'; rw [h, h']
  · rw [if_neg hb] at h'
    by_cases hc : b' = c
    · subst hc; rw [if_pos rfl] at h'; rw [g, h']
    · rw [if_neg hc] at h'; cases h'
theorem lk_sub3 {b c d : Nat} {x y z : List AV} {o : Nat → Option (List AV)} (h : o b = some x) (g : o c = some y) (k : o d = some z) : ∀ b' cs', lk [(b, x), (c, y), (d, z)] b' = some cs' → o b' = some cs' := by
  intro b' cs' h'
  rw [lk_cons] at h'
  by_cases hb : b' = b
  · subst hb; rw [if_pos rfl] at h'; rw [h, h']
  · rw [if_neg hb] at h'; exact lk_sub2 g k b' cs' h'
/-! the walk's ways, each with what closes its side conditions -/
def OM (A : Prop) : Prop := A
theorem OM_a {A : Prop} (h : A := by first | omega | (simp only [Fact, Bool.not_eq_true', Bool.not_eq_false', decide_eq_true_eq, decide_eq_false_iff_not] at *; omega)) : OM A := h
theorem wA {A B : Prop} (left : OM A) (right : B) : A ∧ B := ⟨left, right⟩
theorem wT {b : Bool} {K : Bool → Prop} (hk : K true) (h : Fact (b = true) := by assumption) : Sp b K := Sp_t h hk
theorem wF {b : Bool} {K : Bool → Prop} (hk : K false) (h : Fact (b = false) := by assumption) : Sp b K := Sp_f h hk
theorem wL {x y : Int} {K : Bool → Prop} (h1 : x < y → Fact (decide (x < y) = true) → K true) (h2 : y ≤ x → Fact (decide (x < y) = false) → K false) : Sp (decide (x < y)) K := Sp_split (fun h => h1 (Fact_lt h) h) (fun h => h2 (Fact_nlt h) h)
theorem wE {x y : Int} {K : Bool → Prop} (h1 : x ≤ y → Fact (decide (x ≤ y) = true) → K true) (h2 : y < x → Fact (decide (x ≤ y) = false) → K false) : Sp (decide (x ≤ y)) K := Sp_split (fun h => h1 (Fact_le h) h) (fun h => h2 (Fact_nle h) h)
theorem wK {a : List (Nat × AV)} {b : List (Nat × List AV)} {s : St} (h : LeL a s.t ∧ LeL b s.o := by first | (simp [-List.getD_eq_getElem?_getD, LeL, lk, *]; done) | fail) : leK ⟨lk a, lk b⟩ s := leK_lit h
theorem wD {a : List (Nat × AV)} {b : List (Nat × List AV)} {s : St} (h : LeS [] a s.t ∧ LeL b s.o := by first | (simp [-List.getD_eq_getElem?_getD, LeS, LeL, lk, *]; done) | fail) : leK ⟨lk a, lk b⟩ s := leK_dd h
section
variable {P : Program} {d : Option Nat} {s : St} {K : St → Prop}
theorem c1 {f : Nat} {vs : List AV} {r : AV} {b : Nat} {x : List AV} {o2 : List (Nat × List AV)} (h : CT P f vs (lk [(b, x)]) (fun r' o' => r' = r ∧ o' = lk o2)) (hK : KS (St.put ⟨s.t, ovr o2 s.o⟩ d r) K) (g : s.o b = some x := by first | ((repeat (first | exact lk_hd _ _ _ | (refine lk_tl ?_ ?_; (focus (first | assumption | (simp only [*, not_false_eq_true]; done)))))); done) | fail) : CallO P f vs d s K := CallO_det h (lk_sub1 g) hK
theorem c2 {f : Nat} {vs : List AV} {r : AV} {b c : Nat} {x y : List AV} {o2 : List (Nat × List AV)} (h : CT P f vs (lk [(b, x), (c, y)]) (fun r' o' => r' = r ∧ o' = lk o2)) (hK : KS (St.put ⟨s.t, ovr o2 s.o⟩ d r) K) (g : s.o b = some x := by first | ((repeat (first | exact lk_hd _ _ _ | (refine lk_tl ?_ ?_; (focus (first | assumption | (simp only [*, not_false_eq_true]; done)))))); done) | fail) (g' : s.o c = some y := by first | ((repeat (first | exact lk_hd _ _ _ | (refine lk_tl ?_ ?_; (focus (first | assumption | (simp only [*, not_false_eq_true]; done)))))); done) | fail) : CallO P f vs d s K := CallO_det h (lk_sub2 g g') hK
theorem c3 {f : Nat} {vs : List AV} {r : AV} {b c e : Nat} {x y z : List AV} {o2 : List (Nat × List AV)} (h : CT P f vs (lk [(b, x), (c, y), (e, z)]) (fun r' o' => r' = r ∧ o' = lk o2)) (hK : KS (St.put ⟨s.t, ovr o2 s.o⟩ d r) K) (g : s.o b = some x := by first | ((repeat (first | exact lk_hd _ _ _ | (refine lk_tl ?_ ?_; (focus (first | assumption | (simp only [*, not_false_eq_true]; done)))))); done) | fail) (g' : s.o c = some y := by first | ((repeat (first | exact lk_hd _ _ _ | (refine lk_tl ?_ ?_; (focus (first | assumption | (simp only [*, not_false_eq_true]; done)))))); done) | fail) (g'' : s.o e = some z := by first | ((repeat (first | exact lk_hd _ _ _ | (refine lk_tl ?_ ?_; (focus (first | assumption | (simp only [*, not_false_eq_true]; done)))))); done) | fail) : CallO P f vs d s K := CallO_det h (lk_sub3 g g' g'') hK
theorem r2 {f : Nat} {vs : List AV} {r : AV} {K : AV → Prop} {b c : Nat} {x y : List AV} (h : CT P f vs (lk [(b, x), (c, y)]) (fun r' o' => r' = r ∧ o' = lk [(b, x), (c, y)])) (hK : K r) (g : s.o b = some x := by first | ((repeat (first | exact lk_hd _ _ _ | (refine lk_tl ?_ ?_; (focus (first | assumption | (simp only [*, not_false_eq_true]; done)))))); done) | fail) (g' : s.o c = some y := by first | ((repeat (first | exact lk_hd _ _ _ | (refine lk_tl ?_ ?_; (focus (first | assumption | (simp only [*, not_false_eq_true]; done)))))); done) | fail) : CroW P f vs s K := Cro_det h (lk_sub2 g g') hK
theorem r3 {f : Nat} {vs : List AV} {r : AV} {K : AV → Prop} {b c e : Nat} {x y z : List AV} (h : CT P f vs (lk [(b, x), (c, y), (e, z)]) (fun r' o' => r' = r ∧ o' = lk [(b, x), (c, y), (e, z)])) (hK : K r) (g : s.o b = some x := by first | ((repeat (first | exact lk_hd _ _ _ | (refine lk_tl ?_ ?_; (focus (first | assumption | (simp only [*, not_false_eq_true]; done)))))); done) | fail) (g' : s.o c = some y := by first | ((repeat (first | exact lk_hd _ _ _ | (refine lk_tl ?_ ?_; (focus (first | assumption | (simp only [*, not_false_eq_true]; done)))))); done) | fail) (g'' : s.o e = some z := by first | ((repeat (first | exact lk_hd _ _ _ | (refine lk_tl ?_ ?_; (focus (first | assumption | (simp only [*, not_false_eq_true]; done)))))); done) | fail) : CroW P f vs s K := Cro_det h (lk_sub3 g g' g'') hK
end
end Go.Proofs.Ytobopbjedojebaa
