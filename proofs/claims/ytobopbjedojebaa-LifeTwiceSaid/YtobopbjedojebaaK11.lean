import Derived.Test.YtobopbjedojebaaK10
/- plain laws: names -/
namespace Go.Proofs.Ytobopbjedojebaa
set_option linter.all false
def okAt (s : List UInt8) (j : Nat) : Prop := (97 ≤ (s.getD j 0).toNat ∧ (s.getD j 0).toNat ≤ 122) ∨ j ≠ 0 ∧ ((48 ≤ (s.getD j 0).toNat ∧ (s.getD j 0).toNat ≤ 57) ∨ (s.getD j 0).toNat = 45)
def nameQ (s : List UInt8) : Prop := s ≠ [] ∧ s.length ≤ 12 ∧ ∀ j, j < s.length → okAt s j
open Classical in
noncomputable def nameP (s : List UInt8) : Bool := decide (nameQ s)
theorem nameP_t {s : List UInt8} (h : nameQ s) : nameP s = true := by simp [nameP, h]
theorem nameP_f {s : List UInt8} (h : ¬ nameQ s) : nameP s = false := by simp [nameP, h]
theorem nameP_iff {s : List UInt8} : nameP s = true ↔ nameQ s := by simp [nameP]
theorem name_bad {s : List UInt8} {k : Nat} (hk : k < s.length) (h : ¬ okAt s k) : false = nameP s := (nameP_f fun g => h (g.2.2 k hk)).symm
theorem name_end {s : List UInt8} {k : Nat} (hk : s.length ≤ k) (h : ∀ j, j < k → okAt s j) : nameQ s ↔ s ≠ [] ∧ s.length ≤ 12 := ⟨fun g => ⟨g.1, g.2.1⟩, fun g => ⟨g.1, g.2, fun j hj => h j (by omega)⟩⟩
theorem name_dec {s : List UInt8} {k : Nat} (hk : s.length ≤ k) (h : ∀ j, j < k → okAt s j) : nameP s = decide (s.length ≠ 0 ∧ s.length ≤ 12) := by
  unfold nameP
  rw [decide_eq_decide, name_end hk h, ne_eq, ← List.length_eq_zero_iff]
/-- An end: a name and a number. -/
noncomputable def mayP (p : List UInt8) (c : Int) : Bool := nameP p && decide (0 ≤ c) && decide (c ≤ 999)
theorem name_step {s : List UInt8} {k : Nat} (h : ∀ j, j < k → okAt s j) (g : okAt s k) : ∀ j, j < k + 1 → okAt s j := fun j hj => by
  by_cases e : j = k
  · subst e; exact g
  · exact h j (by omega)
end Go.Proofs.Ytobopbjedojebaa

/- packets, events, keys, entries -/
namespace Go.Proofs.Ytobopbjedojebaa
set_option linter.all false
open Go.RowKit
structure PktC where
  s : List UInt8
  sc : Int
  d : List UInt8
  dc : Int
  q : Int
  x : List UInt8
  th : Int
  ta : Int
  deriving DecidableEq, Inhabited
abbrev PktC.cs (p : PktC) : List AV := [.str p.s, .int .i64 p.sc, .str p.d, .int .i64 p.dc, .int .i64 p.q, .str p.x, .int .i64 p.th, .int .i64 p.ta]
structure EvC where
  k : Int
  p : PktC
  a : List UInt8
  e : List UInt8
  ec : Int
  h : Int
  deriving DecidableEq, Inhabited
abbrev EvC.cs (e : EvC) : List AV := [.int .i64 e.k, .str e.p.s, .int .i64 e.p.sc, .str e.p.d, .int .i64 e.p.dc, .int .i64 e.p.q, .str e.p.x, .int .i64 e.p.th, .int .i64 e.p.ta, .str e.a, .str e.e, .int .i64 e.ec, .int .i64 e.h]
structure EntC where
  p : PktC
  a : List UInt8
  s : Bool
  r : Bool
  w : Bool
  c : Bool
  t : Bool
  deriving DecidableEq, Inhabited
abbrev EntC.cs (e : EntC) : List AV := [.str e.p.s, .int .i64 e.p.sc, .str e.p.d, .int .i64 e.p.dc, .int .i64 e.p.q, .str e.p.x, .int .i64 e.p.th, .int .i64 e.p.ta, .str e.a, .bool e.s, .bool e.r, .bool e.w, .bool e.c, .bool e.t]
structure KeyC where
  e : List UInt8
  ec : Int
  o : Bool
  q : Int
  deriving DecidableEq, Inhabited
abbrev KeyC.cs (k : KeyC) : List AV := [.str k.e, .int .i64 k.ec, .bool k.o, .int .i64 k.q]
theorem pkt_dec (a b : PktC) : (decide (a.s = b.s) && (decide (a.sc = b.sc) && (decide (a.d = b.d) && (decide (a.dc = b.dc) && (decide (a.q = b.q) && (decide (a.x = b.x) && (decide (a.th = b.th) && decide (a.ta = b.ta)))))))) = decide (a = b) := by
  obtain ⟨a1, a2, a3, a4, a5, a6, a7, a8⟩ := a; obtain ⟨b1, b2, b3, b4, b5, b6, b7, b8⟩ := b
  simp [Bool.eq_iff_iff]
theorem ev_dec (a b : EvC) : (decide (a.k = b.k) && (decide (a.p.s = b.p.s) && (decide (a.p.sc = b.p.sc) && (decide (a.p.d = b.p.d) && (decide (a.p.dc = b.p.dc) && (decide (a.p.q = b.p.q) && (decide (a.p.x = b.p.x) && (decide (a.p.th = b.p.th) && (decide (a.p.ta = b.p.ta) && (decide (a.a = b.a) && (decide (a.e = b.e) && (decide (a.ec = b.ec) && decide (a.h = b.h))))))))))))) = decide (a = b) := by
  obtain ⟨a0, ⟨a1, a2, a3, a4, a5, a6, a7, a8⟩, a9, a10, a11, a12⟩ := a; obtain ⟨b0, ⟨b1, b2, b3, b4, b5, b6, b7, b8⟩, b9, b10, b11, b12⟩ := b
  simp [Bool.eq_iff_iff, and_assoc]
noncomputable def mayK (p : PktC) : Bool := mayP p.s p.sc && mayP p.d p.dc && decide (0 ≤ p.th ∧ p.th ≤ 1099511627776) && decide (0 ≤ p.ta ∧ p.ta ≤ 1099511627776) && decide (1 ≤ p.q ∧ p.q ≤ 1099511627776) && decide (p.x.length ≤ 200)
def plainE (e : EvC) : EvC := if e.k = 1 ∨ e.k = 2 ∨ e.k = 4 ∨ e.k = 5 then ⟨e.k, e.p, [], [], 0, 0⟩ else if e.k = 3 then ⟨e.k, e.p, e.a, [], 0, 0⟩ else if e.k = 6 then ⟨e.k, default, [], e.e, e.ec, 0⟩ else if e.k = 7 then ⟨e.k, default, [], [], 0, e.h⟩ else ⟨e.k, default, [], [], 0, 0⟩
def packE (k : Int) : Prop := 1 ≤ k ∧ k ≤ 5
/-- What a kind wants. -/
noncomputable def wantE (e : EvC) : Bool := if e.k = 3 then mayK e.p && decide (1 ≤ e.a.length ∧ e.a.length ≤ 32) else if e.k = 6 then mayP e.e e.ec else if e.k = 7 then decide (1 ≤ e.h ∧ e.h ≤ 1099511627776) else mayK e.p
noncomputable def mayE (e : EvC) : Bool := decide (1 ≤ e.k ∧ e.k ≤ 7) && decide (e = plainE e) && wantE e
noncomputable def ownE (e : EvC) : List UInt8 × Int × Int × Bool :=
  if mayE e then (if e.k = 1 ∨ e.k = 4 ∨ e.k = 5 then (e.p.s, e.p.sc, e.p.q, true) else if e.k = 2 ∨ e.k = 3 then (e.p.d, e.p.dc, e.p.q, true) else if e.k = 6 then (e.e, e.ec, 0, true) else ([], 0, 0, false)) else ([], 0, 0, false)
theorem kinds {k : Int} (h : 1 ≤ k ∧ k ≤ 7) : k = 1 ∨ k = 2 ∨ k = 3 ∨ k = 4 ∨ k = 5 ∨ k = 6 ∨ k = 7 := by omega
end Go.Proofs.Ytobopbjedojebaa

/- The abstract machine: orders told apart: a slot that was written twice counts once. -/
namespace Go.Proofs.Ytobopbjedojebaa
set_option linter.all false
open Go.RowKit
def LeS {α : Type} (sn : List Nat) : List (Nat × α) → (Nat → Option α) → Prop
  | [], _ => True
  | (k, v) :: r, f => (k ∈ sn ∨ f k = some v) ∧ LeS (k :: sn) r f
theorem LeS_ok {α : Type} {f : Nat → Option α} : ∀ {l : List (Nat × α)} {sn : List Nat}, LeS sn l f → ∀ i v, i ∉ sn → lk l i = some v → f i = some v
  | [], _, _, i, v, _, h => by simp [lk] at h
  | (k, w) :: r, sn, ⟨h1, h2⟩, i, v, hn, h => by
    rw [lk] at h
    split at h
    · rename_i e
      subst e
      cases h
      exact h1.resolve_left hn
    · rename_i e
      exact LeS_ok h2 i v (by rw [List.mem_cons, not_or]; exact ⟨e, hn⟩) h
theorem leK_dd {a : List (Nat × AV)} {b : List (Nat × List AV)} {s : St} (h : LeS [] a s.t ∧ LeL b s.o) : leK ⟨lk a, lk b⟩ s := ⟨fun i v e => LeS_ok h.1 i v (by simp) e, LeL_ok h.2⟩
theorem lk_sub2 {b c : Nat} {cs ds : List AV} {o : Nat → Option (List AV)} (h : o b = some cs) (g : o c = some ds) : ∀ b' cs', lk [(b, cs), (c, ds)] b' = some cs' → o b' = some cs' := by
  intro b' cs' h'
  rw [lk_cons, lk_cons] at h'
  by_cases hb : b' = b
  · subst hb; rw [if_pos rfl] at h'; rw [h, h']
  · rw [if_neg hb] at h'
    by_cases hc : b' = c
    · subst hc; rw [if_pos rfl] at h'; rw [g, h']
    · rw [if_neg hc] at h'; cases h'
theorem lk_sub3 {b c d : Nat} {x y z : List AV} {o : Nat → Option (List AV)} (h : o b = some x) (g : o c = some y) (k : o d = some z) : ∀ b' cs', lk [(b, x), (c, y), (d, z)] b' = some cs' → o b' = some cs' := by
  intro b' cs' h'
  rw [lk_cons] at h'
  by_cases hb : b' = b
  · subst hb; rw [if_pos rfl] at h'; rw [h, h']
  · rw [if_neg hb] at h'; exact lk_sub2 g k b' cs' h'
/-! the walk's ways, each with what closes its side conditions -/
def OM (A : Prop) : Prop := A
theorem OM_a {A : Prop} (h : A := by first | omega | (simp only [Fact, Bool.not_eq_true', Bool.not_eq_false', decide_eq_true_eq, decide_eq_false_iff_not] at *; omega)) : OM A := h
theorem wA {A B : Prop} (left : OM A) (right : B) : A ∧ B := ⟨left, right⟩
theorem wT {b : Bool} {K : Bool → Prop} (hk : K true) (h : Fact (b = true) := by assumption) : Sp b K := Sp_t h hk
theorem wF {b : Bool} {K : Bool → Prop} (hk : K false) (h : Fact (b = false) := by assumption) : Sp b K := Sp_f h hk
theorem wL {x y : Int} {K : Bool → Prop} (h1 : x < y → Fact (decide (x < y) = true) → K true) (h2 : y ≤ x → Fact (decide (x < y) = false) → K false) : Sp (decide (x < y)) K := Sp_split (fun h => h1 (Fact_lt h) h) (fun h => h2 (Fact_nlt h) h)
theorem wE {x y : Int} {K : Bool → Prop} (h1 : x ≤ y → Fact (decide (x ≤ y) = true) → K true) (h2 : y < x → Fact (decide (x ≤ y) = false) → K false) : Sp (decide (x ≤ y)) K := Sp_split (fun h => h1 (Fact_le h) h) (fun h => h2 (Fact_nle h) h)
theorem wK {a : List (Nat × AV)} {b : List (Nat × List AV)} {s : St} (h : LeL a s.t ∧ LeL b s.o := by first | (simp [-List.getD_eq_getElem?_getD, LeL, lk, *]; done) | fail) : leK ⟨lk a, lk b⟩ s := leK_lit h
theorem wD {a : List (Nat × AV)} {b : List (Nat × List AV)} {s : St} (h : LeS [] a s.t ∧ LeL b s.o := by first | (simp [-List.getD_eq_getElem?_getD, LeS, LeL, lk, *]; done) | fail) : leK ⟨lk a, lk b⟩ s := leK_dd h
section
variable {P : Program} {d : Option Nat} {s : St} {K : St → Prop}
theorem c1 {f : Nat} {vs : List AV} {r : AV} {b : Nat} {x : List AV} {o2 : List (Nat × List AV)} (h : CT P f vs (lk [(b, x)]) (fun r' o' => r' = r ∧ o' = lk o2)) (hK : KS (St.put ⟨s.t, ovr o2 s.o⟩ d r) K) (g : s.o b = some x := by first | ((repeat (first | exact lk_hd _ _ _ | (refine lk_tl ?_ ?_; (focus (first | assumption | (simp only [*, not_false_eq_true]; done)))))); done) | fail) : CallO P f vs d s K := CallO_det h (lk_sub1 g) hK
theorem c2 {f : Nat} {vs : List AV} {r : AV} {b c : Nat} {x y : List AV} {o2 : List (Nat × List AV)} (h : CT P f vs (lk [(b, x), (c, y)]) (fun r' o' => r' = r ∧ o' = lk o2)) (hK : KS (St.put ⟨s.t, ovr o2 s.o⟩ d r) K) (g : s.o b = some x := by first | ((repeat (first | exact lk_hd _ _ _ | (refine lk_tl ?_ ?_; (focus (first | assumption | (simp only [*, not_false_eq_true]; done)))))); done) | fail) (g' : s.o c = some y := by first | ((repeat (first | exact lk_hd _ _ _ | (refine lk_tl ?_ ?_; (focus (first | assumption | (simp only [*, not_false_eq_true]; done)))))); done) | fail) : CallO P f vs d s K := CallO_det h (lk_sub2 g g') hK
theorem c3 {f : Nat} {vs : List AV} {r : AV} {b c e : Nat} {x y z : List AV} {o2 : List (Nat × List AV)} (h : CT P f vs (lk [(b, x), (c, y), (e, z)]) (fun r' o' => r' = r ∧ o' = lk o2)) (hK : KS (St.put ⟨s.t, ovr o2 s.o⟩ d r) K) (g : s.o b = some x := by first | ((repeat (first | exact lk_hd _ _ _ | (refine lk_tl ?_ ?_; (focus (first | assumption | (simp only [*, not_false_eq_true]; done)))))); done) | fail) (g' : s.o c = some y := by first | ((repeat (first | exact lk_hd _ _ _ | (refine lk_tl ?_ ?_; (focus (first | assumption | (simp only [*, not_false_eq_true]; done)))))); done) | fail) (g'' : s.o e = some z := by first | ((repeat (first | exact lk_hd _ _ _ | (refine lk_tl ?_ ?_; (focus (first | assumption | (simp only [*, not_false_eq_true]; done)))))); done) | fail) : CallO P f vs d s K := CallO_det h (lk_sub3 g g' g'') hK
theorem r2 {f : Nat} {vs : List AV} {r : AV} {K : AV → Prop} {b c : Nat} {x y : List AV} (h : CT P f vs (lk [(b, x), (c, y)]) (fun r' o' => r' = r ∧ o' = lk [(b, x), (c, y)])) (hK : K r) (g : s.o b = some x := by first | ((repeat (first | exact lk_hd _ _ _ | (refine lk_tl ?_ ?_; (focus (first | assumption | (simp only [*, not_false_eq_true]; done)))))); done) | fail) (g' : s.o c = some y := by first | ((repeat (first | exact lk_hd _ _ _ | (refine lk_tl ?_ ?_; (focus (first | assumption | (simp only [*, not_false_eq_true]; done)))))); done) | fail) : CroW P f vs s K := Cro_det h (lk_sub2 g g') hK
theorem r3 {f : Nat} {vs : List AV} {r : AV} {K : AV → Prop} {b c e : Nat} {x y z : List AV} (h : CT P f vs (lk [(b, x), (c, y), (e, z)]) (fun r' o' => r' = r ∧ o' = lk [(b, x), (c, y), (e, z)])) (hK : K r) (g : s.o b = some x := by first | ((repeat (first | exact lk_hd _ _ _ | (refine lk_tl ?_ ?_; (focus (first | assumption | (simp only [*, not_false_eq_true]; done)))))); done) | fail) (g' : s.o c = some y := by first | ((repeat (first | exact lk_hd _ _ _ | (refine lk_tl ?_ ?_; (focus (first | assumption | (simp only [*, not_false_eq_true]; done)))))); done) | fail) (g'' : s.o e = some z := by first | ((repeat (first | exact lk_hd _ _ _ | (refine lk_tl ?_ ?_; (focus (first | assumption | (simp only [*, not_false_eq_true]; done)))))); done) | fail) : CroW P f vs s K := Cro_det h (lk_sub3 g g' g'') hK
end
end Go.Proofs.Ytobopbjedojebaa
