import Derived.Test.YtmmmbmljompamaaGreatDoorK11
import Derived.Test.YtmmmbmljompamaaGreatDoorK7
import Derived.Test.YtmmmbmljompamaaGreatDoorK9
import Derived.Maps.RangeWalk
import Derived.OwnWalkIn
import Derived.Sort.MapsRangeIn
import Derived.RangeFuncFrom
import Derived.RangeFuncLeaves
import Derived.TacticsInMore
import Derived.RegionIn
import Derived.LoopNIn
import Derived.LoopIn
import Derived.Maps.RangeRun
import Derived.Maps.AppendAt
import Derived.Shelf.AbstractIn
import Derived.Shelf.SlSortCmp.NoneTotal
import Derived.RunT
import Derived.Calls
import Derived.Sort.Grow
import Derived.Deep.Draws
import Derived.Sort.Walk0
import Derived.Test.YtmmmbmljompamaaGreatDoorProg
import Derived.Shelf.SlGeneric
import Derived.Shelf.SlicesE.Clone
import Derived.Ground.SlgnProg
import Derived.Shelf.RegionOpenPlain
import Derived.WalkKit
import Derived.Deep.LoopGhost
import Derived.Lib.Walk
import Derived.Lib.SliceRun
import Derived.Shelf.Spec.SlicesInsertGrow
import Derived.Deep.AppendSrc
import Derived.Test.YtmmmbmljompamaaGreatDoorK4
import Derived.Test.YtmmmbmljompamaaGreatDoorK8
import Derived.Test.YtmmmbmljompamaaGreatDoorK10
import Derived.Shelf.Strings.SlTrimAscii
import Derived.WalkSmall
import Derived.Lib.ItoaNum
import Derived.Lib.IndexMore
import Derived.Lib.Strings
import Derived.Lib.SplitLaws
namespace Go.Proofs.YtmmmbmljompamaaGreatDoor
set_option linter.all false
open Go.RowKit
set_option maxRecDepth 100000
theorem sxCta {A B : Prop} (h : B) (e : A = B := by (simp (disch := omega) only [*, ↓Ed, Eu, ↓reduceIte, reduceCtorEq, Nat.reduceAdd, Nat.reduceEqDiff, Nat.reduceLT, Nat.reduceLeDiff, Int.reduceToNat, Int.reduceEq, Int.reduceLT, Int.reduceLE, w64, List.length_append, List.length_map, List.length_cons, List.length_nil, Int.reduceAdd, Nat.zero_add, Nat.mul_one]; first | done | rfl)) : A := e ▸ h
theorem t_WText0 (b : Nat) (s : List UInt8) (hs : s.length ≤ 400000) : CT Tryz.prog 36 [.ptr b 0, .str s] (lk [(b, wr0 false)]) (fun r o => r = .tup [] ∧ o = lk [(b, wrc (pn s.length ++ s) false)]) := by
  have h8 := pn_len s.length
  refine okt_wire_Writer_Text _ _ _ (by simp) ?_
  simp only [c_wire_Writer_Text, ↓Ed, Eu, ↓reduceIte, reduceCtorEq, Nat.reduceAdd, Nat.reduceEqDiff, Nat.reduceLT, Nat.reduceLeDiff, Int.reduceToNat, Int.reduceEq, Int.reduceLT, Int.reduceLE, w64, List.length_append, List.length_map, List.length_cons, List.length_nil, Int.reduceAdd, Nat.zero_add, Nat.mul_one]
  repeat' ((first | refine c1 (p_WNum0 _ _ (by omega)) ?_ | refine c1 (p_put _ (pn s.length) s _ (by omega)) ?_ | refine NewB_intro0 (fun b => ?_) | (refine NewB_intro (fun b hb => ?_); simp only [ln_cons2, ln_nil, and_true] at hb) | (with_reducible apply wA; focus exact OM_a) | ((first | refine gW_sp ?_ | refine condW_sp ?_ | refine pickW_sp ?_); (try refine Sp_n ?_); (first | refine wT ?_ | refine wF ?_ | refine wL (fun h h' => ?_) (fun h h' => ?_) | refine wE (fun h h' => ?_) (fun h h' => ?_) | refine Sp_split (fun h => ?_) (fun h => ?_)) <;> (try (exfalso; omega))) | refine TreeW_intro (by rfl) ?_ | refine TreeW_all ?_ | refine upQ_intro ?_ | refine Two_intro ?_ ?_ | exact wZ | fail) <;> (try refine sxCta ?_) <;> (try exact True.intro))
  all_goals exact ro_mk (by simp [LeL, lk, r_nil, wrc]) dom1
abbrev bk0 (n : List UInt8) (h t : Int) : AV := .agg [.str n, .int .i64 h, .int .i64 t, .sl none 13 []]
theorem p_bMay0 (n : List UInt8) (h t : Int) (hn : nameP n = true) (hl : n.length ≤ 100000) (hh : 1 ≤ h ∧ h ≤ 1099511627776) (ht : 0 ≤ t ∧ t ≤ 1099511627776) : CP Tryz.prog 34 [bk0 n h t] (.bool true) := by
  have hN := p_Name n (by omega)
  rw [hn] at hN
  have f1 : Fact (decide (h < 1) = false) := by simp only [Fact, Bool.not_eq_true', Bool.not_eq_false', decide_eq_true_eq, decide_eq_false_iff_not]; omega
  have f2 : Fact (decide (1099511627776 < h) = false) := by simp only [Fact, Bool.not_eq_true', Bool.not_eq_false', decide_eq_true_eq, decide_eq_false_iff_not]; omega
  have f3 : Fact (decide (t < 0) = false) := by simp only [Fact, Bool.not_eq_true', Bool.not_eq_false', decide_eq_true_eq, decide_eq_false_iff_not]; omega
  have f4 : Fact (decide (1099511627776 < t) = false) := by simp only [Fact, Bool.not_eq_true', Bool.not_eq_false', decide_eq_true_eq, decide_eq_false_iff_not]; omega
  clear hn
  refine ok_block_May _ _ (by simp) ?_
  simp (disch := omega) only [c_block_May, ↓Ed, Eu, ↓reduceIte, reduceCtorEq, Nat.reduceAdd, Nat.reduceEqDiff, Nat.reduceLT, Nat.reduceLeDiff, Int.reduceToNat, Int.reduceEq, Int.reduceLT, Int.reduceLE, w64, List.length_append, List.length_map, List.length_cons, List.length_nil, Int.reduceAdd, Nat.zero_add, Nat.mul_one]
  repeat' ((first | refine CallO_pure (hN) ?_ | refine CallW_intro (hN) ?_ | refine NewB_intro0 (fun b => ?_) | (refine NewB_intro (fun b hb => ?_); simp only [ln_cons2, ln_nil, and_true] at hb) | (with_reducible apply wA; focus exact OM_a) | ((first | refine gW_sp ?_ | refine condW_sp ?_ | refine pickW_sp ?_); (try refine Sp_n ?_); (first | refine wT ?_ | refine wF ?_ | refine wL (fun h h' => ?_) (fun h h' => ?_) | refine wE (fun h h' => ?_) (fun h h' => ?_) | refine Sp_split (fun h => ?_) (fun h => ?_)) <;> (try (exfalso; omega))) | refine TreeW_intro (by rfl) ?_ | refine TreeW_all ?_ | refine upQ_intro ?_ | refine Two_intro ?_ ?_ | exact wZ | fail) <;> (try refine sxCta ?_) <;> (try exact True.intro))
  refine wpx_loop (fun _ : Nat => ⟨lk [(1, .ptr b 0), (30, .sl none 13 []), (31, .int .i64 0), (32, .int .i64 0)], lk [(b, [.str n, .int .i64 h, .int .i64 t, .sl none 13 []])]⟩) (fun _ => True) (fun _ => 0) 0 trivial (Le_lit (by simp [LeL, lk])) ?_
  intro k _
  simp (disch := omega) only [↓Ed, Eu, ↓reduceIte, reduceCtorEq, Nat.reduceAdd, Nat.reduceEqDiff, Nat.reduceLT, Nat.reduceLeDiff, Int.reduceToNat, Int.reduceEq, Int.reduceLT, Int.reduceLE, w64, List.length_append, List.length_map, List.length_cons, List.length_nil, Int.reduceAdd, Nat.zero_add, Nat.mul_one]
  repeat' ((first | refine NewB_intro0 (fun b => ?_) | (refine NewB_intro (fun b hb => ?_); simp only [ln_cons2, ln_nil, and_true] at hb) | (with_reducible apply wA; focus exact OM_a) | ((first | refine gW_sp ?_ | refine condW_sp ?_ | refine pickW_sp ?_); (try refine Sp_n ?_); (first | refine wT ?_ | refine wF ?_ | refine wL (fun h h' => ?_) (fun h h' => ?_) | refine wE (fun h h' => ?_) (fun h h' => ?_) | refine Sp_split (fun h => ?_) (fun h => ?_)) <;> (try (exfalso; omega))) | refine TreeW_intro (by rfl) ?_ | refine TreeW_all ?_ | refine upQ_intro ?_ | refine Two_intro ?_ ?_ | exact wZ | fail) <;> (try refine sxCta ?_) <;> (try exact True.intro))
  all_goals simp
def bEnc (n : List UInt8) (h t : Int) : List UInt8 := pn n.length ++ n ++ pn h ++ pn t ++ pn 0
theorem bEnc_len (n : List UInt8) (h t : Int) : (bEnc n h t).length ≤ n.length + 32 := by
  have h1 := pn_len n.length
  have h2 := pn_len h
  have h3 := pn_len t
  have h4 := pn_len 0
  simp only [bEnc, List.length_append]; omega
theorem p_bEnc0 (n : List UInt8) (h t : Int) (hn : nameP n = true) (hl : n.length ≤ 100000) (hh : 1 ≤ h ∧ h ≤ 1099511627776) (ht : 0 ≤ t ∧ t ≤ 1099511627776) : CP Tryz.prog 21 [bk0 n h t] (.tup [.str (bEnc n h t), .int .i64 0]) := by
  have hM := p_bMay0 n h t hn hl hh ht
  have h1 := pn_len n.length
  have h2 := pn_len h
  have h3 := pn_len t
  have hT := fun b => t_WText0 b n (by omega)
  have hA := fun b => p_WNumOk b (pn n.length ++ n) h (by omega) (by simp only [List.length_append]; omega)
  have hB := fun b => p_WNumOk b (pn n.length ++ n ++ pn h) t (by omega) (by simp only [List.length_append]; omega)
  have hC := fun b => p_WNumOk b (pn n.length ++ n ++ pn h ++ pn t) 0 (by omega) (by simp only [List.length_append]; omega)
  have hD := fun b => p_Bytes b (pn n.length ++ n ++ pn h ++ pn t ++ pn 0) false
  change _ at hD
  refine ok_block_Encode _ _ (by simp) ?_
  unfold bEnc
  clear hn
  generalize pn n.length ++ n = X1 at *
  generalize X1 ++ pn h = X2 at *
  generalize X2 ++ pn t = X3 at *
  generalize X3 ++ pn 0 = X4 at *
  simp (disch := omega) only [c_block_Encode, ↓Ed, Eu, ↓reduceIte, reduceCtorEq, Nat.reduceAdd, Nat.reduceEqDiff, Nat.reduceLT, Nat.reduceLeDiff, Int.reduceToNat, Int.reduceEq, Int.reduceLT, Int.reduceLE, w64, List.length_append, List.length_map, List.length_cons, List.length_nil, Int.reduceAdd, Nat.zero_add, Nat.mul_one]
  repeat' ((first | refine CallO_pure (hM) ?_ | refine CallO_new (p_New) ?_ | refine c1 (hT _) ?_ | refine c1 (hA _) ?_ | refine c1 (hB _) ?_ | refine c1 (hC _) ?_ | refine c1 (hD _) ?_ | refine NewB_intro0 (fun b => ?_) | (refine NewB_intro (fun b hb => ?_); simp only [ln_cons2, ln_nil, and_true] at hb) | (with_reducible apply wA; focus exact OM_a) | ((first | refine gW_sp ?_ | refine condW_sp ?_ | refine pickW_sp ?_); (try refine Sp_n ?_); (first | refine wT ?_ | refine wF ?_ | refine wL (fun h h' => ?_) (fun h h' => ?_) | refine wE (fun h h' => ?_) (fun h h' => ?_) | refine Sp_split (fun h => ?_) (fun h => ?_)) <;> (try (exfalso; omega))) | refine TreeW_intro (by rfl) ?_ | refine TreeW_all ?_ | refine upQ_intro ?_ | refine Two_intro ?_ ?_ | exact wZ | fail) <;> (try refine sxCta ?_) <;> (try exact True.intro))
  rename_i b1
  refine wpx_loop (fun _ : Nat => ⟨lk [(1, .ptr b1 0), (4, .ptr b 0), (31, .sl none 13 []), (32, .int .i64 0), (33, .int .i64 0)], lk [(b, wrc X4 false), (b1, [.str n, .int .i64 h, .int .i64 t, .sl none 13 []])]⟩) (fun _ => True) (fun _ => 0) 0 trivial (Le_lit (by simp [LeL, lk, *])) ?_
  intro k _
  simp (disch := omega) only [↓Ed, Eu, ↓reduceIte, reduceCtorEq, Nat.reduceAdd, Nat.reduceEqDiff, Nat.reduceLT, Nat.reduceLeDiff, Int.reduceToNat, Int.reduceEq, Int.reduceLT, Int.reduceLE, w64, List.length_append, List.length_map, List.length_cons, List.length_nil, Int.reduceAdd, Nat.zero_add, Nat.mul_one]
  repeat' ((first | refine c1 (hD _) ?_ | refine NewB_intro0 (fun b => ?_) | (refine NewB_intro (fun b hb => ?_); simp only [ln_cons2, ln_nil, and_true] at hb) | (with_reducible apply wA; focus exact OM_a) | ((first | refine gW_sp ?_ | refine condW_sp ?_ | refine pickW_sp ?_); (try refine Sp_n ?_); (first | refine wT ?_ | refine wF ?_ | refine wL (fun h h' => ?_) (fun h h' => ?_) | refine wE (fun h h' => ?_) (fun h h' => ?_) | refine Sp_split (fun h => ?_) (fun h => ?_)) <;> (try (exfalso; omega))) | refine TreeW_intro (by rfl) ?_ | refine TreeW_all ?_ | refine upQ_intro ?_ | refine Two_intro ?_ ?_ | exact wZ | fail) <;> (try refine sxCta ?_) <;> (try exact True.intro))
end Go.Proofs.YtmmmbmljompamaaGreatDoor

namespace Go.Proofs.YtmmmbmljompamaaGreatDoor
set_option linter.all false
open Go.RowKit
set_option maxRecDepth 100000
def eight (n : Nat) : List UInt8 := [UInt8.ofNat (n / 72057594037927936), UInt8.ofNat (n / 281474976710656), UInt8.ofNat (n / 1099511627776), UInt8.ofNat (n / 4294967296), UInt8.ofNat (n / 16777216), UInt8.ofNat (n / 65536), UInt8.ofNat (n / 256), UInt8.ofNat n]
theorem eight_len (n : Nat) : (eight n).length = 8 := rfl
abbrev Hs := List UInt8
def zeroH : Hs := List.replicate 32 0
def rootH (n : Nat) (top : Hs) : Hs := shaP (2 :: (eight n ++ top))
theorem root_len (n : Nat) (t : Hs) : (rootH n t).length = 32 := shaP_len _
structure LfC where
  k : List UInt8
  v : List UInt8
  i : Int
  p : List Hs
  h : ∀ x ∈ p, x.length = 32
instance : Inhabited LfC := ⟨⟨[], [], 0, [], by simp⟩⟩
structure PfC where
  c : Int
  l : List LfC
  deriving Inhabited
def hI (l : Hs) : List Int := l.map fun b => (b.toNat : Int)
theorem hI_len (l : Hs) : (hI l).length = l.length := by simp [hI]
end Go.Proofs.YtmmmbmljompamaaGreatDoor

namespace Go.Proofs.YtmmmbmljompamaaGreatDoor
set_option linter.all false
open Go.RowKit
set_option maxRecDepth 100000
def eiC (n : Nat) (k : Nat) : List AV := ((List.replicate (8 - k) (0 : UInt8)) ++ (eight n).drop (8 - k)).map byC
theorem ei_step (n k : Nat) (h : k < 8) : splice (eiC n k) (7 - k) [.int .u8 ((n / 256 ^ k % 256 : Nat) : Int)] = eiC n (k + 1) := by
  have hc : k = 0 ∨ k = 1 ∨ k = 2 ∨ k = 3 ∨ k = 4 ∨ k = 5 ∨ k = 6 ∨ k = 7 := by omega
  rcases hc with rfl | rfl | rfl | rfl | rfl | rfl | rfl | rfl
  all_goals simp [eiC, eight, splice, List.replicate, byC]
end Go.Proofs.YtmmmbmljompamaaGreatDoor

namespace Go.Proofs.YtmmmbmljompamaaGreatDoor
set_option linter.all false
open Go.RowKit
section
variable {P : Program} {d : Option Nat} {s : St} {K : St → Prop}
end
end Go.Proofs.YtmmmbmljompamaaGreatDoor

namespace Go.Proofs.YtmmmbmljompamaaGreatDoor
set_option linter.all false
open Go.RowKit
section
variable {P : Program} {W0 : World} {U0 : Nat → Nat → Prop} {M : Nat → Prop} {W : World} {U : Nat → Nat → Prop}
theorem Inv.res1 {o : Nat → Option (List AV)} (h : Inv 0 W0 U0 M { tmps := #[], defers := [] } W U ⟨fun _ => none, o⟩) {v : Value} {r : AV} (hv : VR W U v r) (ho : Sole W0 M { tmps := #[undef], defers := [] } W U ⟨fun _ => none, o⟩ 0 v r) :
    Inv 1 W0 U0 M { tmps := #[v], defers := [] } W U ⟨upd (fun _ => none) 0 (some r), o⟩ := by
  have h1 : Inv 1 W0 U0 M { tmps := #[undef], defers := [] } W U ⟨fun _ => none, o⟩ := by
    have hc : ∀ {ℓ : Loc} {x : AV}, St.at ⟨fun _ => none, o⟩ ℓ = some x → cat { tmps := #[undef], defers := [] } W ℓ = cat { tmps := #[], defers := [] } W ℓ := by
      intro ℓ x hx
      cases ℓ with
      | t i => simp [St.at] at hx
      | o b j => rfl
    refine ⟨rfl, rfl, h.fr, fun i x hx => (by simp at hx), h.ob, fun ℓ x hx => ?_, fun ℓ ℓ' e sz els e' sz' els' hne h2 h3 => ?_, fun ℓ e sz els h2 => ?_⟩
    · rw [hc hx]; exact h.ow ℓ x hx
    · rw [hc h2, hc h3]; exact h.ap ℓ ℓ' _ _ _ _ _ _ hne h2 h3
    · rw [hc h2]; exact h.no ℓ e sz els h2
  exact h1.put (d := 0) (by omega) hv ho
theorem Inv.res2 {o : Nat → Option (List AV)} (h : Inv 0 W0 U0 M { tmps := #[], defers := [] } W U ⟨fun _ => none, o⟩) {W' : World} {U' : Nat → Nat → Prop} (he : Ext W U W' U') {v : Value} {r : AV} (hv : VR W' U' v r)
    (ho : ∀ e sz els, r = .sl (some e) sz els → OwnRow W' U' (W.heap.size ≤ ·) v e sz els.length) :
    Inv 1 W0 U0 M { tmps := #[v], defers := [] } W' U' ⟨upd (fun _ => none) 0 (some r), o⟩ := by
  refine (h.ext he).res1 hv fun e sz els hr => ?_
  have hw := ho e sz els hr
  refine ⟨hw.toB fun g hg => .inl (Nat.le_trans h.fr.size (OwnRow.inB hw hg)), fun g hg => ⟨?_, fun ℓ _ ⟨e', sz', els', hl⟩ hg' => ?_⟩⟩
  · cases hs : o g with
    | none => exact hs
    | some cs =>
      have h1 := h.ob_lt g cs hs
      have h2 : W.heap.size ≤ g := OwnRow.inB hw hg
      omega
  · have h2 : W.heap.size ≤ g := OwnRow.inB hw hg
    cases ℓ with
    | t i => simp [St.at] at hl
    | o b j =>
      have hl' : St.at ⟨fun _ => none, o⟩ (.o b j) = some (.sl (some e') sz' els') := hl
      have h5 := h.ow (.o b j) _ hl'
      simp only [Own1] at h5
      have hcat : cat { tmps := #[undef], defers := [] } W' (.o b j) = cat { tmps := #[], defers := [] } W (.o b j) := cat_ext (a := { tmps := #[], defers := [] }) he.b h.ob_lt hl'
      rw [hcat] at hg'
      have := h5.lt hg'
      omega
end
section
variable {P : Program} {d : Option Nat} {s : St} {K : St → Prop}
end
end Go.Proofs.YtmmmbmljompamaaGreatDoor

namespace Go.Proofs.YtmmmbmljompamaaGreatDoor
set_option linter.all false
open Go.RowKit Go.ChangeMaps
def Came1 (es : Array MapEntry) (seen : Array Nat) (e : MapEntry) : Prop := e ∈ (leftOf es seen).toList
def Done1 (es : Array MapEntry) (seen : Array Nat) : Prop := (leftOf es seen).size = 0
section
variable {F : Fence} {n : Nat} {P : Program} (w : World) {ops : Array Oper} {rest : List Oper} {o : Oper} {a : Act} {Q : Exit → Act → World → Prop}
end
end Go.Proofs.YtmmmbmljompamaaGreatDoor

namespace Go.Proofs.YtmmmbmljompamaaGreatDoor
set_option linter.all false
open Go.RowKit Go.ChangeMaps
structure Came (es : Array MapEntry) (seen : Array Nat) (is : List Nat) : Prop where
  nd : is.Nodup
  lt : ∀ i ∈ is, i < es.size
  sn : seen.toList = is.map fun i => (es[i]?.map (·.born)).getD 0
theorem Came.nil (es : Array MapEntry) : Came es #[] [] := ⟨by simp, by simp, rfl⟩
theorem born_at {es : Array MapEntry} (hn : (es.toList.map (·.born)).Nodup) {i j : Nat} (hi : i < es.size) (hj : j < es.size) (h : (es[i]?.map (·.born)).getD 0 = (es[j]?.map (·.born)).getD 0) : i = j := by
  have hi' : i < (es.toList.map (·.born)).length := by simpa using hi
  have hj' : j < (es.toList.map (·.born)).length := by simpa using hj
  have hp := List.pairwise_iff_getElem.1 hn
  rcases Nat.lt_trichotomy i j with hlt | rfl | hlt
  · exact absurd (by simpa [hi, hj] using h) (hp i j hi' hj' hlt)
  · rfl
  · exact absurd (by simpa [hi, hj] using h.symm) (hp j i hj' hi' hlt)
theorem Came.step {es : Array MapEntry} (hn : (es.toList.map (·.born)).Nodup) {seen : Array Nat} {is : List Nat} (h : Came es seen is) {e : MapEntry} (he : Came1 es seen e) : ∃ i, es[i]? = some e ∧ Came es (seen.push e.born) (is ++ [i]) := by
  simp only [Came1, leftOf, Array.mem_toList_iff, Array.mem_filter, Bool.not_eq_true'] at he
  obtain ⟨he1, he2⟩ := he
  obtain ⟨i, hi, rfl⟩ := Array.getElem_of_mem he1
  have hni : i ∉ is := fun hm => by
    have : es[i].born ∈ seen.toList := by
      rw [h.sn]
      exact List.mem_map.2 ⟨i, hm, by simp [hi]⟩
    simp_all
  refine ⟨i, by simp [hi], List.nodup_append.2 ⟨h.nd, by simp, fun a ha b hb => by simp at hb; subst hb; intro e; subst e; exact hni ha⟩, fun j hj => ?_, ?_⟩
  · rcases List.mem_append.1 hj with hj | hj
    · exact h.lt j hj
    · simp at hj; omega
  · rw [Array.toList_push, h.sn]; simp [hi]
theorem perm_range : ∀ (n : Nat) (is : List Nat), is.Nodup → (∀ i ∈ is, i < n) → (∀ i, i < n → i ∈ is) → is.Perm (List.range n) := by
  intro n is h1 h2 h3
  rw [List.perm_iff_count]
  intro a
  rw [h1.count, List.nodup_range.count]
  by_cases ha : a < n
  · simp [h3 a ha, ha]
  · have : a ∉ is := fun h => ha (h2 a h)
    simp [this, ha]
theorem Came.all {es : Array MapEntry} (hn : (es.toList.map (·.born)).Nodup) {seen : Array Nat} {is : List Nat} (h : Came es seen is) (h0 : Done1 es seen) : is.Perm (List.range es.size) := by
  refine perm_range _ _ h.nd h.lt fun i hi => ?_
  have he : ∀ x ∈ es, seen.contains x.born = true := by
    intro x hx
    by_cases hc : seen.contains x.born = true
    · exact hc
    · have : x ∈ leftOf es seen := by simp only [leftOf, Array.mem_filter]; exact ⟨hx, by simpa using hc⟩
      rw [Array.eq_empty_of_size_eq_zero (show (leftOf es seen).size = 0 from h0)] at this
      simp at this
  have h1 := he es[i] (Array.getElem_mem hi)
  have h2 : es[i].born ∈ seen.toList := by simpa using h1
  rw [h.sn, List.mem_map] at h2
  obtain ⟨j, hj, e⟩ := h2
  have := born_at hn (h.lt j hj) hi (by rw [e]; simp [hi])
  rw [← this]; exact hj
theorem Came.size {es : Array MapEntry} {seen : Array Nat} {is : List Nat} (h : Came es seen is) : seen.size = is.length := by
  have := congrArg List.length h.sn
  simpa using this
end Go.Proofs.YtmmmbmljompamaaGreatDoor

namespace Go.Proofs.YtmmmbmljompamaaGreatDoor
set_option linter.all false
open Go.RowKit
section
variable {F : Fence} {n : Nat} {P : Program}
end
end Go.Proofs.YtmmmbmljompamaaGreatDoor

namespace Go.Proofs.YtmmmbmljompamaaGreatDoor
set_option linter.all false
open Go.RowKit Go.Sort
section
variable {α : Type} [Inhabited α] {cl : α → List Value} {k : Nat}
end
theorem row_VR {W W' : World} {U : Nat → Nat → Prop} {e k n : Nat} {v : Value} {xs : List Value} {els : List (List AV)} (hk : 0 < k) (hb : RowKit.Below W.heap.size W W') (hrow : W'.ownsRow W.heap.size e k v n xs) (hn : els.length = n) (hsz : ∀ l ∈ els, l.length = k) (hone : ∀ u ∈ xs, u.oneCell' = true)
    (hv : ∀ (i j : Nat) (l : List AV) (c : AV) (u : Value), els[i]? = some l → l[j]? = some c → xs[i * k + j]? = some u → ∀ W U, VR W U u c) :
    ∃ U', VR W' U' v (.sl (some e) k els) ∧ OwnRow W' U' (W.heap.size ≤ ·) v e k els.length ∧ Ext W U W' U' := by
  subst hn
  obtain ⟨hlen, hnil | ⟨g, cap, cur, rfl, hbase, hgb, h1, h2, h3, h4⟩⟩ := hrow
  · obtain ⟨rfl, h0⟩ := hnil
    have : els = [] := List.eq_nil_of_length_eq_zero h0
    subst this
    exact ⟨fun b o => if b < W.heap.size then U b o else False, VR.nil _ _, .inl ⟨rfl, rfl⟩, hb, fun j hj o => by simp [hj]⟩
  · have hcell : ∀ t, t < els.length * k → ∃ u, xs[t]? = some u ∧ W'.cell? ⟨g, t, none⟩ = some u := by
      intro t ht
      have ht' : t < xs.length := by omega
      refine ⟨xs[t], List.getElem?_eq_getElem ht', ?_⟩
      have q : (cur.toList.take (els.length * k))[t]? = xs[t]? := by rw [h4]
      rw [List.getElem?_take_of_lt ht, Array.getElem?_toList, List.getElem?_eq_getElem ht'] at q
      simp only [World.cell?, hgb, Option.isSome_none, Bool.false_eq_true, if_false]
      exact q
    refine ⟨fun b o => if b < W.heap.size then U b o else (b = g ∧ els.length * k ≤ o), ?_, .inr ⟨g, cap, cur, rfl, hbase, .of hgb, h1, h2, h3, fun o ho => ?_, fun o ho => ?_⟩, hb, fun j hj o => by simp [hj]⟩
    · refine .sl (some ⟨g, 0, none⟩) cap (some e) els g 0 k (fun i j => (xs[i * k + j]?).getD undef) h1 h2 (fun _ => rfl) hsz (fun i j hi hj => ?_) (fun i l j c hl hc => ?_)
      · have ht : i * k + j < els.length * k := by
          have := Nat.mul_le_mul_right k (show i + 1 ≤ els.length from hi)
          rw [Nat.add_mul, Nat.one_mul] at this; omega
        obtain ⟨u, q1, q2⟩ := hcell _ ht
        rw [q1, Nat.zero_add]
        refine ⟨q2, hone u (List.mem_of_getElem? q1), ?_⟩
        simp only [show ¬ g < W.heap.size by omega, if_false]
        omega
      · have hi : i < els.length := (List.getElem?_eq_some_iff.1 hl).1
        have hj : j < k := by rw [← hsz l (List.mem_of_getElem? hl)]; exact (List.getElem?_eq_some_iff.1 hc).1
        have ht : i * k + j < els.length * k := by
          have := Nat.mul_le_mul_right k (show i + 1 ≤ els.length from hi)
          rw [Nat.add_mul, Nat.one_mul] at this; omega
        obtain ⟨u, q1, _⟩ := hcell _ ht
        rw [q1]
        exact hv i j l c u hl hc q1 _ _
    · simp only [show ¬ g < W.heap.size by omega, if_false]; omega
    · simp only [show ¬ g < W.heap.size by omega, if_false]; exact ⟨trivial, ho⟩
end Go.Proofs.YtmmmbmljompamaaGreatDoor

namespace Go.Proofs.YtmmmbmljompamaaGreatDoor
set_option linter.all false
open Go

def RD {α : Type} (d : Nat) : Result α → Prop
  | .ok _ w => d ≤ w.drawn
  | .halt _ w => d ≤ w.drawn
theorem RD.le {α : Type} {d e : Nat} (h : e ≤ d) {r : Result α} (hr : RD d r) : RD e r := by cases r <;> exact Nat.le_trans h hr
def GD (d : Nat) : GStep → Prop
  | .go _ w _ => d ≤ w.drawn
  | .comm _ _ _ _ w _ => d ≤ w.drawn
  | .spawn _ _ w _ => d ≤ w.drawn
  | .count _ w _ => d ≤ w.drawn
  | .timer _ _ w _ => d ≤ w.drawn
  | .alone _ _ w _ => d ≤ w.drawn
  | .newcoro _ _ _ w _ => d ≤ w.drawn
  | .coroswitch _ _ _ w _ => d ≤ w.drawn
  | .collect _ w _ => d ≤ w.drawn
  | .watch _ w _ => d ≤ w.drawn
  | .ended _ _ _ => True
theorem GD.le {d e : Nat} (h : e ≤ d) {g : GStep} (hg : GD d g) : GD e g := by cases g <;> first | trivial | exact Nat.le_trans h hg
theorem GD.after {d : Nat} {es : Array Event} {g : GStep} (h : GD d g) : GD d (g.after es) := by cases g <;> exact h
def SD (d : Nat) : Stepped → Prop
  | .next m => d ≤ m.world.drawn
  | .ended _ _ => True
theorem SD.le {d e : Nat} (h : e ≤ d) {g : Stepped} (hg : SD d g) : SD e g := by cases g <;> first | trivial | exact Nat.le_trans h hg
def MD (d : Nat) : Move → Prop
  | .goroutine m _ => d ≤ m.world.drawn
  | .machine s _ => SD d s
theorem MD.le {d e : Nat} (h : e ≤ d) {g : Move} (hg : MD d g) : MD e g := by
  cases g
  · exact Nat.le_trans h hg
  · exact SD.le h hg
end Go.Proofs.YtmmmbmljompamaaGreatDoor

namespace Go.Proofs.YtmmmbmljompamaaGreatDoor
set_option linter.all false
open Go.RowKit
end Go.Proofs.YtmmmbmljompamaaGreatDoor

namespace Go.Proofs.YtmmmbmljompamaaGreatDoor
set_option linter.all false
open Go.RowKit
section
variable {P : Program} {d : Option Nat} {s : St} {K : St → Prop}
end
end Go.Proofs.YtmmmbmljompamaaGreatDoor

namespace Go.Proofs.YtmmmbmljompamaaGreatDoor
set_option linter.all false
open Go.RowKit
structure PktC where
  s : List UInt8
  sc : Int
  d : List UInt8
  dc : Int
  q : Int
  x : List UInt8
  th : Int
  ta : Int
  deriving DecidableEq, Inhabited
abbrev PktC.cs (p : PktC) : List AV := [.str p.s, .int .i64 p.sc, .str p.d, .int .i64 p.dc, .int .i64 p.q, .str p.x, .int .i64 p.th, .int .i64 p.ta]
structure EvC where
  k : Int
  p : PktC
  a : List UInt8
  e : List UInt8
  ec : Int
  h : Int
  deriving DecidableEq, Inhabited
abbrev EvC.cs (e : EvC) : List AV := [.int .i64 e.k, .str e.p.s, .int .i64 e.p.sc, .str e.p.d, .int .i64 e.p.dc, .int .i64 e.p.q, .str e.p.x, .int .i64 e.p.th, .int .i64 e.p.ta, .str e.a, .str e.e, .int .i64 e.ec, .int .i64 e.h]
structure EntC where
  p : PktC
  a : List UInt8
  s : Bool
  r : Bool
  w : Bool
  c : Bool
  t : Bool
  deriving DecidableEq, Inhabited
abbrev EntC.cs (e : EntC) : List AV := [.str e.p.s, .int .i64 e.p.sc, .str e.p.d, .int .i64 e.p.dc, .int .i64 e.p.q, .str e.p.x, .int .i64 e.p.th, .int .i64 e.p.ta, .str e.a, .bool e.s, .bool e.r, .bool e.w, .bool e.c, .bool e.t]
structure KeyC where
  e : List UInt8
  ec : Int
  o : Bool
  q : Int
  deriving DecidableEq, Inhabited
abbrev KeyC.cs (k : KeyC) : List AV := [.str k.e, .int .i64 k.ec, .bool k.o, .int .i64 k.q]
end Go.Proofs.YtmmmbmljompamaaGreatDoor

namespace Go.Proofs.YtmmmbmljompamaaGreatDoor
set_option linter.all false
open Go
abbrev EndP := List UInt8 × Int
structure STO {α : Type} (lt : α → α → Bool) : Prop where
  irr : ∀ a, lt a a = false
  tr : ∀ a b c, lt a b = true → lt b c = true → lt a c = true
  tot : ∀ a b, lt a b = false → lt b a = false → a = b
theorem lst_irr (a : List UInt8) : ¬ a < a := List.lt_irrefl a
theorem lst_tot {a b : List UInt8} (h1 : ¬ a < b) (h2 : ¬ b < a) : a = b := List.le_antisymm (List.not_lt.1 h2) (List.not_lt.1 h1)
def KeyC.en (k : KeyC) : EndP := (k.e, k.ec)
end Go.Proofs.YtmmmbmljompamaaGreatDoor

namespace Go.Proofs.YtmmmbmljompamaaGreatDoor
set_option linter.all false
open Go.RowKit Go.Sort
def flatC : List AV → Bool
  | [] => true
  | .int _ _ :: r => flatC r
  | .bool _ :: r => flatC r
  | .str _ :: r => flatC r
  | _ => false
def plainV : List AV → List Value
  | [] => []
  | .int k n :: r => .int k n :: plainV r
  | .bool b :: r => .bool b :: plainV r
  | .str l :: r => .string ⟨l.toArray⟩ :: plainV r
  | _ :: r => undef :: plainV r
theorem plainV_len : ∀ cs : List AV, (plainV cs).length = cs.length
  | [] => rfl
  | a :: r => by cases a <;> simp [plainV, plainV_len r]
theorem plainV_get : ∀ (cs : List AV), flatC cs = true → ∀ (i : Nat) (c : AV) (u : Value), cs[i]? = some c → (plainV cs)[i]? = some u → (∀ W U, VR W U u c) ∧ (∀ W U v, VR W U v c → v = u) ∧ u.oneCell' = true
  | [], _, i, c, u, h, _ => by simp at h
  | a :: r, hf, 0, c, u, h, g => by
    simp only [List.getElem?_cons_zero, Option.some.injEq] at h
    subst h
    cases a <;> simp [flatC] at hf <;> simp only [plainV, List.getElem?_cons_zero, Option.some.injEq] at g <;> subst g
    · exact ⟨fun _ _ => .int _ _, fun _ _ _ h => by cases h; rfl, rfl⟩
    · exact ⟨fun _ _ => .bool _, fun _ _ _ h => by cases h; rfl, rfl⟩
    · exact ⟨fun _ _ => .str _, fun _ _ _ h => by cases h; rfl, rfl⟩
  | a :: r, hf, i + 1, c, u, h, g => by
    have hr : flatC r = true := by cases a <;> simp [flatC] at hf <;> exact hf
    have e : plainV (a :: r) = (plainV [a] ++ plainV r) := by cases a <;> rfl
    have e1 : (plainV [a]).length = 1 := plainV_len [a]
    rw [e, List.getElem?_append_right (by omega), e1] at g
    exact plainV_get r hr i c u (by simpa using h) (by simpa using g)
theorem plainV_one {cs : List AV} (hf : flatC cs = true) : ∀ u ∈ plainV cs, u.oneCell' = true := by
  intro u hu
  obtain ⟨i, hi, rfl⟩ := List.getElem_of_mem hu
  have hi' : i < cs.length := by rw [← plainV_len]; exact hi
  exact (plainV_get cs hf i cs[i] _ (List.getElem?_eq_getElem hi') (List.getElem?_eq_getElem hi)).2.2
end Go.Proofs.YtmmmbmljompamaaGreatDoor

namespace Go.Proofs
end Go.Proofs

namespace Go.Proofs
open Go.Shelf
def Tryz.cln25_ren : Go.Shelf.Ren := ⟨fun | 41 => 25 | n => n, fun | 22 => 44 | 23 => 9 | 4 => 4 | n => n, fun | n => n⟩
theorem Tryz.cln25 : Go.Proofs.SlLaysE0.n41 Tryz.prog Tryz.cln25_ren := {
  mixed := by kernel_rfl
  f41 := ⟨Tryz.f25.name, by decide, Tryz.func25.trans (congrArg some (by kernel_rfl))⟩
  t4 := Tryz.underlying4
  a4 := Tryz.isAgg4
  z4 := Tryz.sizeOf4
  v4 := Tryz.zeroValue4
  t22 := Tryz.underlying44
  a22 := Tryz.isAgg44
  z22 := Tryz.sizeOf44
  v22 := Tryz.zeroValue44 }
def Tryz.cln48_ren : Go.Shelf.Ren := ⟨fun | 41 => 48 | n => n, fun | 22 => 68 | 23 => 118 | 4 => 4 | n => n, fun | n => n⟩
theorem Tryz.cln48 : Go.Proofs.SlLaysE0.n41 Tryz.prog Tryz.cln48_ren := {
  mixed := by kernel_rfl
  f41 := ⟨Tryz.f48.name, by decide, Tryz.func48.trans (congrArg some (by kernel_rfl))⟩
  t4 := Tryz.underlying4
  a4 := Tryz.isAgg4
  z4 := Tryz.sizeOf4
  v4 := Tryz.zeroValue4
  t22 := Tryz.underlying68
  a22 := Tryz.isAgg68
  z22 := Tryz.sizeOf68
  v22 := Tryz.zeroValue68 }
end Go.Proofs

namespace Go.Proofs.YtmmmbmljompamaaGreatDoor
set_option linter.all false
open Go.RowKit Go.Shelf Go.Sort Go.Lib
set_option maxRecDepth 100000
theorem flatM_len {k : Nat} : ∀ els : List (List AV), (∀ e ∈ els, e.length = k) → (els.flatMap plainV).length = els.length * k
  | [], _ => by simp
  | e :: r, h => by
    rw [List.flatMap_cons, List.length_append, plainV_len, h e (by simp), flatM_len r fun x hx => h x (by simp [hx]), List.length_cons, Nat.add_mul]; omega
theorem flatM_get {k : Nat} : ∀ (els : List (List AV)) (i j : Nat), (∀ e ∈ els, e.length = k) → i < els.length → j < k → (els.flatMap plainV)[i * k + j]? = (plainV (els.getD i []))[j]?
  | [], i, j, _, h, _ => by simp at h
  | e :: r, 0, j, h, _, hj => by
    rw [List.flatMap_cons, List.getElem?_append_left (by rw [plainV_len, h e (by simp)]; omega)]; simp
  | e :: r, i + 1, j, h, hi, hj => by
    have he := h e (by simp)
    rw [List.flatMap_cons, List.getElem?_append_right (by rw [plainV_len, he, Nat.add_mul]; omega), plainV_len, he]
    have : (i + 1) * k + j - k = i * k + j := by rw [Nat.add_mul]; omega
    rw [this, flatM_get r i j (fun x hx => h x (by simp [hx])) (by simpa using hi) hj]; simp
section
variable {P : Program} {ρ : Ren}
set_option maxHeartbeats 2000000 in
theorem cln_zero (L : SlLaysE0.n41 P ρ) (i0 : TypeInfo) (z : Value) (size bytes : Nat) (hi : P.info? (ρ.t 23) = some i0) (hz0 : i0.zero = some z) (hz1 : i0.size = size) (hz2 : i0.bytes = bytes) (hzs : z.cells.size = size) (hsz : 0 < size)
    (z23 : ∀ w, (Go.sizeOf (ρ.t 23)).run P w = .ok size w) (a : Addr) (c : Nat) (w : World) :
    Calls P (ρ.f 41) #[.slice (some a) 0 c] w fun e w' => ∃ v', e = .returned v' ∧ w'.ownsRow w.heap.size (ρ.t 23) size v' 0 [] ∧ RowKit.Below w.heap.size w w' := by
  have mixed := L.mixed; have t4 := L.t4; have a4 := L.a4; have z4 := L.z4; have v4 := L.v4; have t22 := L.t22; have a22 := L.a22; have z22 := L.z22; have v22 := L.v22
  have q22 : ∀ (w : World) (a : Option Addr) (n c n' c' : Nat), (binOp .eql (ρ.t 22) (.slice a n c) (.slice none n' c')).run P w = .ok (.bool a.isNone) w := fun w a n c n' c' => Lib.run_eql_slice_nil w _ _ a n c n' c' L.t22
  have u22 : ∀ w, Sem.run P (underlying (ρ.t 22)) w = .ok (TypeDesc.slice (ρ.t 23)) w := run_underlying t22
  obtain ⟨_, _, FG⟩ := L.f41
  go_enter FG, SlBodyN.n41_ntmps ρ
  go_wp2_with (at_builtin; refine wpList_append_own _ rfl _ _ (ρ.t 22) rfl w.heap.size (ρ.t 23) i0 z size bytes t22 hi hz0 hz1 hz2 hzs hsz _ _ _ rfl (World.ownsRow_made w #[] 0 (Nat.le_refl _) (Nat.zero_le _) (by simp)) a 0 c [] rfl (by simp) (by intro j u hj; simp at hj) (by intro u hu; cases hu) (by unfold maxLen; omega) (by omega) (by simp) ?_)
  intro v' w1 hown hgrow hnil
  go_wp2
  go_ret
  exact ⟨v', rfl, by simpa using hown, ((RowKit.Below.refl _ w).alloc (Nat.le_refl _) _).grown hgrow (by simp) (by intro k hk; simp [Value.ownBlock] at hk; omega)⟩
theorem CP_clone (L : SlLaysE0.n41 P ρ) (i0 : TypeInfo) (z : Value) (size bytes : Nat) (hi : P.info? (ρ.t 23) = some i0) (hz0 : i0.zero = some z) (hz1 : i0.size = size) (hz2 : i0.bytes = bytes) (hzs : z.cells.size = size) (hsz : 0 < size)
    (z23 : ∀ w, (Go.sizeOf (ρ.t 23)).run P w = .ok size w) (els : List (List AV)) (hb : els.length * bytes ≤ 140737488355328) (hl : els.length ≤ maxLen) (hs : ∀ e ∈ els, e.length = size) (hf : ∀ e ∈ els, flatC e = true) :
    CP P (ρ.f 41) [.sl none size els] (.sl (some (ρ.t 23)) size els) := by
  intro W U vs hG hlen hv
  obtain ⟨v, rfl⟩ : ∃ v, vs = [v] := by
    match vs, hlen with
    | [v], _ => exact ⟨v, rfl⟩
  have h := hv 0 v _ rfl rfl
  have hget : ∀ (i j : Nat) (l : List AV) (c : AV) (u : Value), els[i]? = some l → l[j]? = some c → (els.flatMap plainV)[i * size + j]? = some u → ∀ W U, VR W U u c := by
    intro i j l c u hl' hc hu W2 U2
    have hi' : i < els.length := (List.getElem?_eq_some_iff.1 hl').1
    have hm : l ∈ els := List.mem_of_getElem? hl'
    have hj : j < size := by rw [← hs l hm]; exact (List.getElem?_eq_some_iff.1 hc).1
    rw [flatM_get els i j hs hi' hj] at hu
    have e : els.getD i [] = l := by simp [List.getD, hl']
    rw [e] at hu
    exact (plainV_get l (hf l hm) j c u hc hu).1 W2 U2
  have hone : ∀ u ∈ els.flatMap plainV, u.oneCell' = true := by
    intro u hu
    obtain ⟨e, he, h2⟩ := List.mem_flatMap.1 hu
    exact plainV_one (hf e he) u h2
  have fin : ∀ (W' : World) (v' : Value), RowKit.Below W.heap.size W W' → W'.ownsRow W.heap.size (ρ.t 23) size v' els.length (els.flatMap plainV) →
      ∃ v U', Ending.returned v' = .returned v ∧ VR W' U' v (.sl (some (ρ.t 23)) size els) ∧ Own1 W' U' (W.heap.size ≤ ·) v (.sl (some (ρ.t 23)) size els) ∧ Ext W U W' U' := by
    intro W' v' hbl hrow
    obtain ⟨U', r1, r2, r3⟩ := row_VR (U := U) (e := ρ.t 23) (k := size) (els := els) hsz hbl hrow rfl hs hone hget
    exact ⟨v', U', rfl, r1, r2, r3⟩
  cases h with
  | sl A cap own _ b o _ f hcap hmax hA _ hc hvv =>
    rcases Nat.eq_zero_or_pos els.length with h0 | h0
    · obtain rfl : els = [] := List.eq_nil_of_length_eq_zero h0
      cases A with
      | none =>
        refine (AnyE.slices_Clone_nil L 0 cap W).mono ?_
        rintro e W' ⟨rfl, rfl⟩
        exact fin _ _ (RowKit.Below.refl _ _) ⟨by simp, .inl ⟨rfl, rfl⟩⟩
      | some a =>
        refine (cln_zero L i0 z size bytes hi hz0 hz1 hz2 hzs hsz z23 a cap W).mono ?_
        rintro e W' ⟨v', rfl, hrow, hbl⟩
        exact fin W' v' hbl (by simpa using hrow)
    · obtain rfl := hA h0
      refine (AnyE.slices_Clone L i0 z size bytes hi hz0 hz1 hz2 hzs hsz z23 b o els.length cap (els.flatMap plainV) W (flatM_len els hs) hl hb (fun t u hu => ?_) hone).mono ?_
      · have ht : t < els.length * size := by rw [← flatM_len els hs]; exact (List.getElem?_eq_some_iff.1 hu).1
        have hi' : t / size < els.length := (Nat.div_lt_iff_lt_mul hsz).2 ht
        have hj : t % size < size := Nat.mod_lt _ hsz
        have e : t / size * size + t % size = t := by rw [Nat.mul_comm]; exact Nat.div_add_mod t size
        obtain ⟨c1, _, _⟩ := hc (t / size) (t % size) hi' hj
        have hm : els.getD (t / size) [] ∈ els := by rw [List.getD, List.getElem?_eq_getElem hi', Option.getD_some]; exact List.getElem_mem hi'
        have hle := hs _ hm
        have hc2 := List.getElem?_eq_getElem (l := els.getD (t / size) []) (i := t % size) (by rw [hle]; exact hj)
        have hvr := hvv (t / size) _ (t % size) _ (by rw [List.getD, List.getElem?_eq_getElem hi', Option.getD_some]) hc2
        have hu2 := flatM_get els (t / size) (t % size) hs hi' hj
        rw [e, hu] at hu2
        have := (plainV_get _ (hf _ hm) (t % size) _ u hc2 hu2.symm).2.1 W U _ hvr
        rw [show o + t = o + t / size * size + t % size by omega, c1, this]
      · rintro e W' ⟨v', rfl, hrow, _, hbl⟩
        exact fin W' v' hbl hrow
end
end Go.Proofs.YtmmmbmljompamaaGreatDoor

namespace Go.Proofs.YtmmmbmljompamaaGreatDoor
set_option linter.all false
open Go.Shelf Go.RowKit Go.Lib
set_option maxRecDepth 100000
abbrev zPr : Value := .agg #[.string ⟨#[]⟩, .string ⟨#[]⟩]
end Go.Proofs.YtmmmbmljompamaaGreatDoor

namespace Go.Proofs.YtmmmbmljompamaaGreatDoor
set_option linter.all false
open Go.RowKit
structure RowT {α : Type} (f : α → List AV) (sz : Nat) : Prop where
  len : ∀ x, (f x).length = sz
  no : ∀ x, ∀ c ∈ f x, (∀ t k l, c ≠ .sl (some t) k l) ∧ ∀ t, c ≠ .nilT t
section
variable {α : Type} {f : α → List AV} {sz : Nat} (R : RowT f sz)
include R
theorem RowT.all (l : List α) : ∀ e ∈ l.map f, e.length = sz := fun e he => by
  obtain ⟨x, _, rfl⟩ := List.mem_map.1 he; exact R.len x
theorem RowT.noOwn (l : List α) : noOwn (l.map f) := fun e he => by
  obtain ⟨x, _, rfl⟩ := List.mem_map.1 he; exact R.no x
theorem RowT.len_hc (cap : Nat) (l : List α) : (hc sz cap (l.map f)).length = (max cap l.length) * sz := by rw [hc_len (R.all l), List.length_map]
theorem RowT.drop_take (cap : Nat) (l : List α) (i : Nat) (d : α) (hi : i < l.length) : ((hc sz cap (l.map f)).drop (i * sz)).take sz = f (l.getD i d) := by
  apply List.ext_getElem?
  intro j
  have he : (l.map f)[i]? = some (f (l.getD i d)) := by simp [List.getD, hi]
  by_cases hj : j < sz
  · rw [List.getElem?_take_of_lt hj, List.getElem?_drop, hc_get (R.all l) he hj]
  · rw [List.getElem?_take_eq_none (by omega), List.getElem?_eq_none (by rw [R.len]; omega)]
theorem RowT.ld (cap : Nat) (l : List α) (i : Nat) (d : α) (hi : i < l.length) (K : AV → Prop) : RK (ldR (some sz) ((hc sz cap (l.map f)).drop (i * sz))) K = K (.agg (f (l.getD i d))) := by
  have hb : sz ≤ ((hc sz cap (l.map f)).drop (i * sz)).length := by
    rw [List.length_drop, R.len_hc]
    have := Nat.mul_le_mul_right sz (show i + 1 ≤ max cap l.length by omega)
    rw [Nat.add_mul, Nat.one_mul] at this; omega
  have e : ldR (some sz) ((hc sz cap (l.map f)).drop (i * sz)) = fun r => sz ≤ ((hc sz cap (l.map f)).drop (i * sz)).length ∧ r = .agg (((hc sz cap (l.map f)).drop (i * sz)).take sz) := by
    funext r; generalize (hc sz cap (l.map f)).drop (i * sz) = X; cases X <;> rfl
  rw [e, RK_and, R.drop_take cap l i d hi]
  exact propext ⟨fun h => h.2, fun h => ⟨hb, h⟩⟩
theorem RowT.sto (cap : Nat) (l : List α) (i : Nat) (y : α) (hi : i < l.length) : splice (hc sz cap (l.map f)) (i * sz) (f y) = hc sz cap ((l.set i y).map f) := by
  have hb : i * sz + (f y).length ≤ (hc sz cap (l.map f)).length := by
    rw [R.len_hc, R.len]
    have := Nat.mul_le_mul_right sz (show i + 1 ≤ max cap l.length by omega)
    rw [Nat.add_mul, Nat.one_mul] at this; omega
  apply List.ext_getElem?
  intro p
  rw [splice_get _ _ _ hb]
  rcases Nat.eq_zero_or_pos sz with h0 | hsz
  · have hfy : (f y).length = 0 := by rw [R.len]; exact h0
    rw [if_neg (by omega)]
    have h1 : (hc sz cap (l.map f)) = [] := List.eq_nil_of_length_eq_zero (by rw [R.len_hc]; subst h0; simp)
    have h2 : (hc sz cap ((l.set i y).map f)) = [] := List.eq_nil_of_length_eq_zero (by rw [R.len_hc]; subst h0; simp)
    rw [h1, h2]
  have hdm : p / sz * sz + p % sz = p := by rw [Nat.mul_comm]; exact Nat.div_add_mod p sz
  have hml := Nat.mod_lt p hsz
  by_cases hpl : p / sz < l.length
  · have hpl' : p / sz < (l.set i y).length := by simpa using hpl
    have he : ((l.set i y).map f)[p / sz]? = some (f ((l.set i y).getD (p / sz) y)) := by rw [List.getElem?_map, List.getElem?_eq_getElem hpl', List.getD, List.getElem?_eq_getElem hpl']; rfl
    have he2 : (l.map f)[p / sz]? = some (f (l.getD (p / sz) y)) := by simp [List.getD, hpl]
    have r1 := hc_get (cap := cap) (R.all (l.set i y)) he hml
    have r2 := hc_get (cap := cap) (R.all l) he2 hml
    rw [hdm] at r1 r2
    rw [r1, r2]
    by_cases hpi : p / sz = i
    · rw [if_pos (by rw [R.len, ← hpi]; omega)]
      have : p - i * sz = p % sz := by rw [← hpi]; omega
      rw [this, hpi]
      simp [List.getD, hi]
    · rw [if_neg]
      · have : (l.set i y).getD (p / sz) y = l.getD (p / sz) y := by simp [List.getD, List.getElem?_set, Ne.symm hpi]
        rw [this]
      · rw [R.len]
        rintro ⟨a1, a2⟩
        apply hpi
        have b1 : i ≤ p / sz := (Nat.le_div_iff_mul_le hsz).2 a1
        have b2 : p / sz < i + 1 := (Nat.div_lt_iff_lt_mul hsz).2 (by rw [Nat.add_mul, Nat.one_mul]; exact a2)
        omega
  · have hge : l.length * sz ≤ p := (Nat.le_div_iff_mul_le hsz).1 (Nat.not_lt.1 hpl)
    rw [if_neg]
    · unfold hc
      have l1 : (l.map f).flatten.length = l.length * sz := by rw [flatten_len (R.all l), List.length_map]
      have l2 : ((l.set i y).map f).flatten.length = l.length * sz := by rw [flatten_len (R.all _), List.length_map, List.length_set]
      rw [List.getElem?_append_right (by omega), List.getElem?_append_right (by omega), l1, l2]
      simp
    · rw [R.len]
      have := Nat.mul_le_mul_right sz (show i + 1 ≤ l.length from hi)
      rw [Nat.add_mul, Nat.one_mul] at this
      omega
variable {P : Program} {d : Option Nat} {s : St} {K : St → Prop} {e bytes : Nat} {q : AV}
end
end Go.Proofs.YtmmmbmljompamaaGreatDoor

namespace Go.Proofs.YtmmmbmljompamaaGreatDoor
set_option linter.all false
open Go.RowKit Go.Lib
set_option maxRecDepth 100000
abbrev PrP := List UInt8 × List UInt8
abbrev prC (p : PrP) : List AV := [.str p.1, .str p.2]
theorem prRow : RowT prC 2 where
  len := fun _ => rfl
  no := fun x c h => by
    simp only [List.mem_cons, List.not_mem_nil, or_false] at h
    rcases h with rfl | rfl <;> exact ⟨fun _ _ _ e => (by cases e), fun _ e => (by cases e)⟩
def hcP (cap : Nat) (L : List PrP) : List AV := hc 2 cap (L.map prC)
end Go.Proofs.YtmmmbmljompamaaGreatDoor

namespace Go.Proofs.YtmmmbmljompamaaGreatDoor
set_option linter.all false
open Go
def ltS (a b : List UInt8) : Bool := Op.bytesLess a b
theorem ltS_iff (a b : List UInt8) : ltS a b = true ↔ a < b := by simp [ltS, bytesLess_eq]
theorem ltS_f (a b : List UInt8) : ltS a b = false ↔ ¬ a < b := by rw [← ltS_iff]; simp
theorem strSTO : STO ltS where
  irr a := (ltS_f a a).2 (lst_irr a)
  tr a b c h1 h2 := by rw [ltS_iff] at *; exact List.lt_trans h1 h2
  tot a b h1 h2 := lst_tot ((ltS_f _ _).1 h1) ((ltS_f _ _).1 h2)
def posS (L : List PrP) (k : List UInt8) : Nat := (L.takeWhile fun p => ltS p.1 k).length
def hasS (L : List PrP) (k : List UInt8) : Bool := decide (posS L k < L.length) && decide ((L.getD (posS L k) default).1 = k)
def setS (L : List PrP) (k v : List UInt8) : List PrP := L.take (posS L k) ++ [(k, v)] ++ L.drop (if hasS L k = true then posS L k + 1 else posS L k)
def RiseS (L : List PrP) : Prop := L.Pairwise fun p q => ltS p.1 q.1 = true
theorem pos_le (L : List PrP) (k : List UInt8) : posS L k ≤ L.length := (List.takeWhile_sublist _).length_le
theorem pos_before (k : List UInt8) : ∀ (L : List PrP) (i : Nat), i < posS L k → ltS (L.getD i default).1 k = true
  | [], i, h => by simp [posS] at h
  | y :: r, i, h => by
    unfold posS at h
    rw [List.takeWhile_cons] at h
    split at h
    · rename_i hy
      cases i with
      | zero => exact hy
      | succ i => exact pos_before k r i (by simpa [posS] using h)
    · simp at h
theorem pos_at (k : List UInt8) : ∀ (L : List PrP), posS L k < L.length → ltS (L.getD (posS L k) default).1 k = false
  | [], h => by simp at h
  | y :: r, h => by
    by_cases hy : ltS y.1 k = true
    · have e : posS (y :: r) k = posS r k + 1 := by unfold posS; rw [List.takeWhile_cons, if_pos hy]; simp
      rw [e] at h ⊢
      exact pos_at k r (by simpa using h)
    · have e : posS (y :: r) k = 0 := by unfold posS; rw [List.takeWhile_cons, if_neg hy]; rfl
      rw [e]; simpa using hy
theorem riseS_get {L : List PrP} (h : RiseS L) {i j : Nat} (hij : i < j) (hj : j < L.length) : ltS (L.getD i default).1 (L.getD j default).1 = true := by
  have := List.pairwise_iff_getElem.1 h i j (by omega) hj hij
  simpa [List.getD, hj, show i < L.length by omega] using this
theorem pos_behind {L : List PrP} (h : RiseS L) (k : List UInt8) (i : Nat) (h1 : posS L k ≤ i) (h2 : i < L.length) : ltS (L.getD i default).1 k = false := by
  have h3 := pos_at k L (by omega)
  by_cases e : i = posS L k
  · rw [e]; exact h3
  · cases hq : ltS (L.getD i default).1 k with
    | false => rfl
    | true => rw [strSTO.tr _ _ _ (riseS_get h (by omega) h2) hq] at h3; cases h3
theorem setS_rise {L : List PrP} (h : RiseS L) (k v : List UInt8) : RiseS (setS L k v) := by
  have hp := pos_le L k
  have ht : ∀ x ∈ L.take (posS L k), ltS x.1 k = true := fun x hx => by
    obtain ⟨i, hi, rfl⟩ := List.getElem_of_mem hx
    have hi' : i < posS L k ∧ i < L.length := by simp at hi; omega
    have := pos_before k L i hi'.1
    simpa [List.getD, hi'.2] using this
  have hd : ∀ x ∈ L.drop (if hasS L k = true then posS L k + 1 else posS L k), ltS k x.1 = true := fun x hx => by
    by_cases hh : hasS L k = true
    · rw [if_pos hh] at hx
      simp only [hasS, Bool.and_eq_true, decide_eq_true_eq] at hh
      obtain ⟨i, hi, rfl⟩ := List.getElem_of_mem hx
      rw [List.length_drop] at hi
      have := riseS_get h (i := posS L k) (j := posS L k + 1 + i) (by omega) (by omega)
      rw [hh.2] at this
      rw [List.getElem_drop]
      have e : L.getD (posS L k + 1 + i) default = L[posS L k + 1 + i] := by simp [List.getD, show posS L k + 1 + i < L.length by omega]
      rwa [e] at this
    · rw [if_neg hh] at hx
      obtain ⟨i, hi, rfl⟩ := List.getElem_of_mem hx
      rw [List.length_drop] at hi
      have h1 := pos_behind h k (posS L k + i) (by omega) (by omega)
      have h2 : (L.getD (posS L k + i) default).1 ≠ k := fun e => by
        by_cases h0 : i = 0
        · subst h0
          refine hh ?_
          simp only [hasS, Bool.and_eq_true, decide_eq_true_eq]
          exact ⟨by omega, e⟩
        · have a := riseS_get h (i := posS L k) (j := posS L k + i) (by omega) (by omega)
          have b := pos_at k L (by omega)
          rw [e] at a; rw [a] at b; cases b
      have h3 : ltS k (L.getD (posS L k + i) default).1 = true := by
        cases hq : ltS k (L.getD (posS L k + i) default).1 with
        | true => rfl
        | false => exact absurd (strSTO.tot _ _ h1 hq) h2
      rw [List.getElem_drop]
      have e : L.getD (posS L k + i) default = L[posS L k + i] := by simp [List.getD, show posS L k + i < L.length by omega]
      rwa [e] at h3
  unfold setS RiseS
  rw [List.append_assoc]
  refine List.pairwise_append.2 ⟨List.Pairwise.sublist (List.take_sublist _ _) h, List.pairwise_cons.2 ⟨hd, List.Pairwise.sublist (List.drop_sublist _ _) h⟩, fun a ha b hb => ?_⟩
  rcases List.mem_cons.1 hb with rfl | hb
  · exact ht a ha
  · exact strSTO.tr _ _ _ (ht a ha) (hd b hb)
end Go.Proofs.YtmmmbmljompamaaGreatDoor

namespace Go.Proofs.YtmmmbmljompamaaGreatDoor
set_option linter.all false
open Go.RowKit Go.Lib
set_option maxRecDepth 100000
theorem rkP (cap : Nat) (L : List PrP) (i : Nat) (hi : i < L.length) (K : AV → Prop) : RK (ldR (some 2) ((hcP cap L).drop (i * 2))) K = K (.agg (prC (L.getD i default))) := prRow.ld cap L i default hi K
theorem hcP_at (cap : Nat) (L : List PrP) (i j : Nat) (hi : i < L.length) (hj : j < 2) : ∃ r, (hcP cap L).drop (i * 2 + j) = (prC (L.getD i default)).getD j .undef :: r := by
  have h := prRow.drop_take cap L i default hi
  have e : ((hcP cap L).drop (i * 2 + j))[0]? = (prC (L.getD i default))[j]? := by
    rw [← h, List.getElem?_take_of_lt hj, List.getElem?_drop, List.getElem?_drop]; rfl
  generalize (hcP cap L).drop (i * 2 + j) = X at e
  rcases X with _ | ⟨a, X⟩
  · rcases j with _ | _ | j <;> simp at e
    omega
  · refine ⟨X, ?_⟩
    congr 1
    simp only [List.getElem?_cons_zero] at e
    rw [List.getD, ← e]; rfl
theorem rkP0 (cap : Nat) (L : List PrP) (i : Nat) (hi : i < L.length) (K : AV → Prop) : RK (ldR none ((hcP cap L).drop (i * 2))) K = K (.str (L.getD i default).1) := by
  obtain ⟨r, h⟩ := hcP_at cap L i 0 hi (by omega)
  rw [Nat.add_zero] at h
  rw [h, l_onef, RK_eq]; rfl
theorem rkP1 (cap : Nat) (L : List PrP) (i : Nat) (hi : i < L.length) (K : AV → Prop) : RK (ldR none ((hcP cap L).drop (i * 2 + 1))) K = K (.str (L.getD i default).2) := by
  obtain ⟨r, h⟩ := hcP_at cap L i 1 hi (by omega)
  rw [h, l_onef, RK_eq]; rfl
theorem sameD (o : List (Nat × List AV)) : ∀ b cs, lk o b = some cs → ∃ cs', lk o b = some cs' := fun b cs h => ⟨cs, h⟩
abbrev StS := Option (Nat × Nat)
def stOk (s : Nat) (L : List PrP) : StS → Prop
  | none => L = []
  | some (g, cap) => (¬ g = s ∧ ¬ s = g) ∧ L.length ≤ cap
end Go.Proofs.YtmmmbmljompamaaGreatDoor

namespace Go.Proofs.YtmmmbmljompamaaGreatDoor
set_option linter.all false
open Go.RowKit Go.Lib
set_option maxRecDepth 100000
section
variable {P : Program} {d : Option Nat} {s : St} {K : St → Prop}
theorem c0 {f : Nat} {vs : List AV} {r : AV} (h : CT P f vs (lk []) (fun r' o' => r' = r ∧ o' = lk [])) (hK : KS (St.put ⟨s.t, ovr [] s.o⟩ d r) K) : CallO P f vs d s K := CallO_det h (fun b cs h => by cases h) hK
end
theorem sxStp {A B : Prop} (h : B) (e : A = B := by (simp (disch := omega) only [*, ↓Ed, Eu, ↓reduceIte, reduceCtorEq, Nat.reduceAdd, Nat.reduceEqDiff, Nat.reduceLT, Nat.reduceLeDiff, Int.reduceToNat, Int.reduceEq, Int.reduceLT, Int.reduceLE, w64, ↓rkP, ↓rkP0, ↓rkP1]; first | done | rfl)) : A := e ▸ h
theorem t_sNew : CT Tryz.prog 16 [] (fun _ => none) (fun r o => ∃ b, r = .ptr b 0 ∧ o = lk [(b, [.nils 118 2])]) := by
  refine okt_store_New _ (lk []) _ (by simp) ?_
  simp (disch := omega) only [c_store_New, ↓Ed, Eu, ↓reduceIte, reduceCtorEq, Nat.reduceAdd, Nat.reduceEqDiff, Nat.reduceLT, Nat.reduceLeDiff, Int.reduceToNat, Int.reduceEq, Int.reduceLT, Int.reduceLE, w64, ↓rkP, ↓rkP0, ↓rkP1]
  repeat' ((first | refine NewB_intro0 (fun b => ?_) | (refine NewB_intro (fun b hb => ?_); simp only [ln_cons2, ln_nil, and_true] at hb) | (with_reducible apply wA; focus exact OM_a) | ((first | refine gW_sp ?_ | refine condW_sp ?_ | refine pickW_sp ?_); (try refine Sp_n ?_); (first | refine wT ?_ | refine wF ?_ | refine wL (fun h h' => ?_) (fun h h' => ?_) | refine wE (fun h h' => ?_) (fun h h' => ?_) | refine Sp_split (fun h => ?_) (fun h => ?_)) <;> (try (exfalso; omega))) | refine TreeW_intro (by rfl) ?_ | refine TreeW_all ?_ | refine upQ_intro ?_ | refine Two_intro ?_ ?_ | exact wZ | fail) <;> (try refine sxStp ?_) <;> (try exact True.intro))
  all_goals exact ro_new ⟨rfl, by simp [LeL, lk]⟩
def mayPr (k v : List UInt8) : Bool := decide (1 ≤ k.length ∧ k.length ≤ 160 ∧ 1 ≤ v.length ∧ v.length ≤ 64)
end Go.Proofs.YtmmmbmljompamaaGreatDoor

namespace Go.Proofs.YtmmmbmljompamaaGreatDoor
set_option linter.all false
open Go.RowKit Go.Lib
set_option maxRecDepth 100000
end Go.Proofs.YtmmmbmljompamaaGreatDoor

namespace Go.Proofs.YtmmmbmljompamaaGreatDoor
set_option linter.all false
open Go.RowKit Go.Lib
set_option maxRecDepth 100000
section
variable {d : Option Nat} {s : St} {K : St → Prop}
end
end Go.Proofs.YtmmmbmljompamaaGreatDoor

namespace Go.Proofs.YtmmmbmljompamaaGreatDoor
set_option linter.all false
open Go.RowKit Go.Lib
set_option maxRecDepth 100000
def putS (L : List PrP) (k v : List UInt8) : List PrP := if mayPr k v = true then setS L k v else L
section
variable {d : Option Nat} {st : St} {K : St → Prop}
end
end Go.Proofs.YtmmmbmljompamaaGreatDoor

namespace Go.Proofs.YtmmmbmljompamaaGreatDoor
set_option linter.all false
open Go.RowKit Go.Shelf Go.Sort Go.Lib
set_option maxRecDepth 100000
section
variable {P : Program} {ρ : Ren}
theorem clone_val (L : SlLaysE0.n41 P ρ) (i0 : TypeInfo) (z : Value) (size bytes : Nat) (hi : P.info? (ρ.t 23) = some i0) (hz0 : i0.zero = some z) (hz1 : i0.size = size) (hz2 : i0.bytes = bytes) (hzs : z.cells.size = size) (hsz : 0 < size)
    (z23 : ∀ w, (Go.sizeOf (ρ.t 23)).run P w = .ok size w) (els : List (List AV)) (hb : els.length * bytes ≤ 140737488355328) (hl : els.length ≤ maxLen) (hs : ∀ e ∈ els, e.length = size) (hf : ∀ e ∈ els, flatC e = true)
    {W : World} {U : Nat → Nat → Prop} {o : Nat → Option (List AV)} (hI : Inv 0 W U (ownedBy W o) { tmps := #[], defers := [] } W U ⟨fun _ => none, o⟩) {g a : Nat} {cs : List AV} (A : Option Addr) (cap : Nat)
    (hA : 0 < els.length → A = some ⟨g, a * size, none⟩ ∧ o g = some cs ∧ CellsAt W g) (hr : ∀ i l j x, els[i]? = some l → l[j]? = some x → cs[a * size + i * size + j]? = some x) :
    Calls P (ρ.f 41) #[.slice A els.length cap] W fun e W' => ∃ v U' r o', e = .returned v ∧ (r = .sl (some (ρ.t 23)) size els ∧ o' = o) ∧ (∀ b cs, o b = some cs → ∃ cs', o' b = some cs') ∧
      Inv 1 W U (ownedBy W o) { tmps := #[v], defers := [] } W' U' ⟨upd (fun _ => none) 0 (some r), o'⟩ := by
  have hget : ∀ (i j : Nat) (l : List AV) (c : AV) (u : Value), els[i]? = some l → l[j]? = some c → (els.flatMap plainV)[i * size + j]? = some u → ∀ W U, VR W U u c := by
    intro i j l c u hl' hc hu W2 U2
    have hi' : i < els.length := (List.getElem?_eq_some_iff.1 hl').1
    have hm : l ∈ els := List.mem_of_getElem? hl'
    have hj : j < size := by rw [← hs l hm]; exact (List.getElem?_eq_some_iff.1 hc).1
    rw [flatM_get els i j hs hi' hj] at hu
    have e : els.getD i [] = l := by simp [List.getD, hl']
    rw [e] at hu
    exact (plainV_get l (hf l hm) j c u hc hu).1 W2 U2
  have hone : ∀ u ∈ els.flatMap plainV, u.oneCell' = true := by
    intro u hu
    obtain ⟨e, he, h2⟩ := List.mem_flatMap.1 hu
    exact plainV_one (hf e he) u h2
  have fin : ∀ (W' : World) (v' : Value), RowKit.Below W.heap.size W W' → W'.ownsRow W.heap.size (ρ.t 23) size v' els.length (els.flatMap plainV) →
      ∃ v U' r o', Ending.returned v' = .returned v ∧ (r = .sl (some (ρ.t 23)) size els ∧ o' = o) ∧ (∀ b cs, o b = some cs → ∃ cs', o' b = some cs') ∧ Inv 1 W U (ownedBy W o) { tmps := #[v], defers := [] } W' U' ⟨upd (fun _ => none) 0 (some r), o'⟩ := by
    intro W' v' hbl hrow
    obtain ⟨U', r1, r2, r3⟩ := row_VR (U := U) (e := ρ.t 23) (k := size) (els := els) hsz hbl hrow rfl hs hone hget
    exact ⟨v', U', _, o, rfl, ⟨rfl, rfl⟩, fun b cs h => ⟨cs, h⟩, hI.res2 r3 r1 fun e sz els hr => by cases hr; exact r2⟩
  rcases Nat.eq_zero_or_pos els.length with h0 | h0
  · obtain rfl : els = [] := List.eq_nil_of_length_eq_zero h0
    cases A with
    | none =>
      refine (AnyE.slices_Clone_nil L 0 cap W).mono ?_
      rintro e W' ⟨rfl, rfl⟩
      exact fin _ _ (RowKit.Below.refl _ _) ⟨by simp, .inl ⟨rfl, rfl⟩⟩
    | some a =>
      refine (cln_zero L i0 z size bytes hi hz0 hz1 hz2 hzs hsz z23 a cap W).mono ?_
      rintro e W' ⟨v', rfl, hrow, hbl⟩
      exact fin W' v' hbl (by simpa using hrow)
  · obtain ⟨rfl, hg, hm⟩ := hA h0
    obtain ⟨cur, ty, g1, g2, g3, g4, g5⟩ := hI.obc (b := g) (cs := cs) hg hm
    refine (AnyE.slices_Clone L i0 z size bytes hi hz0 hz1 hz2 hzs hsz z23 g (a * size) els.length cap (els.flatMap plainV) W (flatM_len els hs) hl hb (fun t u hu => ?_) hone).mono ?_
    · have ht : t < els.length * size := by rw [← flatM_len els hs]; exact (List.getElem?_eq_some_iff.1 hu).1
      have hi' : t / size < els.length := (Nat.div_lt_iff_lt_mul hsz).2 ht
      have hj : t % size < size := Nat.mod_lt _ hsz
      have e : t / size * size + t % size = t := by rw [Nat.mul_comm]; exact Nat.div_add_mod t size
      have hm : els.getD (t / size) [] ∈ els := by rw [List.getD, List.getElem?_eq_getElem hi', Option.getD_some]; exact List.getElem_mem hi'
      have hle := hs _ hm
      have hc2 := List.getElem?_eq_getElem (l := els.getD (t / size) []) (i := t % size) (by rw [hle]; exact hj)
      have hcs := hr (t / size) _ (t % size) _ (by rw [List.getD, List.getElem?_eq_getElem hi', Option.getD_some]) hc2
      have hvr := (g3 _ _ hcs).1
      have hlt := (List.getElem?_eq_some_iff.1 hcs).1
      have hu2 := flatM_get els (t / size) (t % size) hs hi' hj
      rw [e, hu] at hu2
      have := (plainV_get _ (hf _ hm) (t % size) _ u hc2 hu2.symm).2.1 W U _ hvr
      rw [show a * size + t = a * size + t / size * size + t % size by omega, cell_of_row W g _ cur _ (0, 0) g1, Array.getElem?_eq_getElem (by omega), ← this, Array.getD_eq_getD_getElem?, Array.getElem?_eq_getElem (by omega)]
      rfl
    · rintro e W' ⟨v', rfl, hrow, _, hbl⟩
      exact fin W' v' hbl hrow
end
def prR (L : List PrP) : List (List AV) := L.map prC
theorem prR_len (L : List PrP) : (prR L).length = L.length := by simp [prR]
theorem t_clnV {W : World} {U : Nat → Nat → Prop} {o : Nat → Option (List AV)} (hI : Inv 0 W U (ownedBy W o) { tmps := #[], defers := [] } W U ⟨fun _ => none, o⟩) {g a : Nat} {cs : List AV} (M : List PrP) (hM : M.length ≤ 1000000) (A : Option Addr) (cap : Nat)
    (hA : 0 < M.length → A = some ⟨g, a * 2, none⟩ ∧ o g = some cs ∧ CellsAt W g) (hr : ∀ i l j x, (prR M)[i]? = some l → l[j]? = some x → cs[a * 2 + i * 2 + j]? = some x) :
    Calls Tryz.prog 48 #[.slice A M.length cap] W fun e W' => ∃ v U' r o', e = .returned v ∧ (r = .sl (some 118) 2 (prR M) ∧ o' = o) ∧ (∀ b cs, o b = some cs → ∃ cs', o' b = some cs') ∧
      Inv 1 W U (ownedBy W o) { tmps := #[v], defers := [] } W' U' ⟨upd (fun _ => none) 0 (some r), o'⟩ := by
  obtain ⟨i0, hi, hz0, hz1, hz2⟩ := info_parts (P := Tryz.prog) (e := 118) (z := zPr) (size := 2) (bytes := 32) (by kernel_rfl)
  have := clone_val Tryz.cln48 i0 _ 2 32 hi hz0 hz1 hz2 rfl (by omega) Tryz.sizeOf118 (prR M) (by rw [prR_len]; omega) (by rw [prR_len]; unfold maxLen; omega) (fun e he => by obtain ⟨x, _, rfl⟩ := List.mem_map.1 he; rfl) (fun e he => by obtain ⟨x, _, rfl⟩ := List.mem_map.1 he; rfl) hI (g := g) (a := a) (cs := cs) A cap (by rw [prR_len]; exact hA) hr
  rwa [prR_len] at this
theorem t_clnN : CT Tryz.prog 48 [.hnil 118 2] (lk []) (fun r o => r = .sl (some 118) 2 (prR []) ∧ o = lk []) := by
  intro W U vs hlen hv hI
  obtain ⟨v, rfl⟩ : ∃ v, vs = [v] := by
    match vs, hlen with
    | [v], _ => exact ⟨v, rfl⟩
  have h := hv 0 v _ rfl rfl
  cases h
  exact t_clnV hI (g := 0) (a := 0) (cs := []) [] (by simp) none 0 (fun h => by simp at h) (fun i l j x h => by simp [prR] at h)
end Go.Proofs.YtmmmbmljompamaaGreatDoor

namespace Go.Proofs.YtmmmbmljompamaaGreatDoor
set_option linter.all false
open Go.RowKit
set_option maxRecDepth 100000
end Go.Proofs.YtmmmbmljompamaaGreatDoor

namespace Go.Proofs.YtmmmbmljompamaaGreatDoor
set_option linter.all false
open Go
def isDig (c : UInt8) : Prop := 48 ≤ c.toNat ∧ c.toNat ≤ 57
instance (c : UInt8) : Decidable (isDig c) := by unfold isDig; exact inferInstance
def valD (s : List UInt8) : Nat := s.foldl (fun v c => 10 * v + (c.toNat - 48)) 0
def numQ (s : List UInt8) : Prop := (∀ c ∈ s, isDig c) ∧ ¬ (1 < s.length ∧ s.getD 0 0 = 48)
instance (s : List UInt8) : Decidable (numQ s) := by unfold numQ; exact inferInstance
abbrev dig (n : Nat) : List UInt8 := Lib.decDigits n
theorem dig_lo {n : Nat} (h : n < 10) : dig n = [UInt8.ofNat (48 + n)] := by rw [dig, Lib.decDigits, dif_pos h]
theorem dig_hi {n : Nat} (h : ¬ n < 10) : dig n = dig (n / 10) ++ [UInt8.ofNat (48 + n % 10)] := by rw [dig, Lib.decDigits, dif_neg h]
theorem u8n {n : Nat} (h : n < 256) : (UInt8.ofNat n).toNat = n := by rw [UInt8.toNat_ofNat']; omega
theorem dig_all : ∀ (n : Nat), ∀ c ∈ dig n, isDig c := by
  intro n
  induction n using Nat.strongRecOn with
  | _ n ih =>
    intro c hc
    by_cases h : n < 10
    · rw [dig_lo h] at hc
      simp only [List.mem_singleton] at hc
      subst hc
      unfold isDig
      rw [u8n (by omega)]; omega
    · rw [dig_hi h] at hc
      rcases List.mem_append.1 hc with hc | hc
      · exact ih (n / 10) (by omega) c hc
      · simp only [List.mem_singleton] at hc
        subst hc
        unfold isDig
        rw [u8n (by omega)]; omega
theorem valD_snoc (s : List UInt8) (c : UInt8) : valD (s ++ [c]) = 10 * valD s + (c.toNat - 48) := by simp [valD, List.foldl_append]
theorem dig_val (n : Nat) : valD (dig n) = n := by
  induction n using Nat.strongRecOn with
  | _ n ih =>
    by_cases h : n < 10
    · rw [dig_lo h]
      simp only [valD, List.foldl_cons, List.foldl_nil]
      rw [u8n (by omega)]; omega
    · rw [dig_hi h, valD_snoc, ih (n / 10) (by omega), u8n (by omega)]; omega
theorem dig_len : ∀ (k n : Nat), n < 10 ^ (k + 1) → (dig n).length ≤ k + 1
  | 0, n, h => by rw [dig_lo (by omega)]; simp
  | k + 1, n, h => by
    by_cases hn : n < 10
    · rw [dig_lo hn]; simp
    · rw [dig_hi hn]
      have := dig_len k (n / 10) (by rw [Nat.pow_succ] at h; omega)
      simp only [List.length_append, List.length_cons, List.length_nil]; omega
theorem dig_inj {a b : Nat} (h : dig a = dig b) : a = b := by rw [← dig_val a, ← dig_val b, h]
end Go.Proofs.YtmmmbmljompamaaGreatDoor

namespace Go.Proofs.YtmmmbmljompamaaGreatDoor
set_option linter.all false
open Go.RowKit
set_option maxRecDepth 100000
end Go.Proofs.YtmmmbmljompamaaGreatDoor

namespace Go.Proofs.YtmmmbmljompamaaGreatDoor
set_option linter.all false
open Go
abbrev chn : List UInt8 := [99, 104, 97, 110, 110, 101, 108, 45]
abbrev prts : List UInt8 := [112, 111, 114, 116, 115]
abbrev chns : List UInt8 := [99, 104, 97, 110, 110, 101, 108, 115]
abbrev seqs : List UInt8 := [115, 101, 113, 117, 101, 110, 99, 101, 115]
def wordP (k : Int) : List UInt8 :=
  if k = 1 then [99, 111, 109, 109, 105, 116, 109, 101, 110, 116, 115] else if k = 2 then [114, 101, 99, 101, 105, 112, 116, 115] else if k = 3 then [97, 99, 107, 115] else if k = 4 then [110, 101, 120, 116, 83, 101, 113, 117, 101, 110, 99, 101, 83, 101, 110, 100] else if k = 5 then [110, 101, 120, 116, 83, 101, 113, 117, 101, 110, 99, 101, 82, 101, 99, 118] else if k = 6 then [110, 101, 120, 116, 83, 101, 113, 117, 101, 110, 99, 101, 65, 99, 107] else if k = 7 then [99, 104, 97, 110, 110, 101, 108, 69, 110, 100, 115] else []
theorem wordP_out {k : Int} (h : k < 1 ∨ 7 < k) : wordP k = [] := by
  unfold wordP
  repeat rw [if_neg (by omega)]
theorem wordP_in {k : Int} (h : 1 ≤ k ∧ k ≤ 7) : wordP k ≠ [] := by
  obtain rfl | rfl | rfl | rfl | rfl | rfl | rfl : k = 1 ∨ k = 2 ∨ k = 3 ∨ k = 4 ∨ k = 5 ∨ k = 6 ∨ k = 7 := by omega
  all_goals simp [wordP]
theorem wordP_inj {k j : Int} (h : 1 ≤ k ∧ k ≤ 7) (g : 1 ≤ j ∧ j ≤ 7) (e : wordP k = wordP j) : k = j := by
  obtain rfl | rfl | rfl | rfl | rfl | rfl | rfl : k = 1 ∨ k = 2 ∨ k = 3 ∨ k = 4 ∨ k = 5 ∨ k = 6 ∨ k = 7 := by omega
  all_goals
    obtain rfl | rfl | rfl | rfl | rfl | rfl | rfl : j = 1 ∨ j = 2 ∨ j = 3 ∨ j = 4 ∨ j = 5 ∨ j = 6 ∨ j = 7 := by omega
    all_goals first | rfl | (simp [wordP] at e)
theorem wordP_len (k : Int) : (wordP k).length ≤ 16 := by
  unfold wordP
  repeat' split
  all_goals decide
theorem wordP_no (k : Int) : 47 ∉ wordP k := by
  unfold wordP
  repeat' split
  all_goals decide
theorem itoa_dig {n : Int} (h : 0 ≤ n) : Lib.itoa n = dig n.toNat := by unfold Lib.itoa; rw [if_neg (by omega)]
def baseP (k : Int) (p : List UInt8) (c : Int) : List UInt8 := wordP k ++ [47] ++ prts ++ [47] ++ p ++ [47] ++ chns ++ [47] ++ chn ++ Lib.itoa c
noncomputable def ofP (k : Int) (p : List UInt8) (c q : Int) : List UInt8 :=
  if wordP k = [] ∨ ¬ mayP p c = true then [] else if 1 ≤ k ∧ k ≤ 3 then if 1 ≤ q ∧ q ≤ 1099511627776 then baseP k p c ++ [47] ++ seqs ++ [47] ++ Lib.itoa q else [] else if q = 0 then baseP k p c else []
theorem mayP_t {p : List UInt8} {c : Int} (h : mayP p c = true) : p.length ≤ 12 ∧ 0 ≤ c ∧ c ≤ 999 ∧ nameQ p := by
  simp only [mayP, Bool.and_eq_true, decide_eq_true_eq, nameP_iff] at h
  exact ⟨h.1.1.2.1, h.1.2, h.2, h.1.1⟩
theorem dig_len3 {c : Int} (h : 0 ≤ c ∧ c ≤ 999) : (Lib.itoa c).length ≤ 3 := by rw [itoa_dig h.1]; exact dig_len 2 _ (by omega)
theorem dig_len13 {c : Int} (h : 0 ≤ c ∧ c ≤ 1099511627776) : (Lib.itoa c).length ≤ 13 := by rw [itoa_dig h.1]; exact dig_len 12 _ (by omega)
end Go.Proofs.YtmmmbmljompamaaGreatDoor

namespace Go.Proofs.YtmmmbmljompamaaGreatDoor
set_option linter.all false
open Go.RowKit
set_option maxRecDepth 100000
end Go.Proofs.YtmmmbmljompamaaGreatDoor

namespace Go.Proofs.YtmmmbmljompamaaGreatDoor
set_option linter.all false
open Go.RowKit
set_option maxRecDepth 100000
end Go.Proofs.YtmmmbmljompamaaGreatDoor

namespace Go.Proofs.YtmmmbmljompamaaGreatDoor
set_option linter.all false
open Go.RowKit
set_option maxRecDepth 100000
end Go.Proofs.YtmmmbmljompamaaGreatDoor

namespace Go.Proofs.YtmmmbmljompamaaGreatDoor
set_option linter.all false
open Go.RowKit
set_option maxRecDepth 100000
end Go.Proofs.YtmmmbmljompamaaGreatDoor

namespace Go.Proofs.YtmmmbmljompamaaGreatDoor
set_option linter.all false
open Go
set_option maxRecDepth 100000
theorem cut_inj : ∀ {a b x y : List UInt8}, 47 ∉ a → 47 ∉ b → a ++ 47 :: x = b ++ 47 :: y → a = b ∧ x = y
  | [], [], _, _, _, _, h => ⟨rfl, by simpa using h⟩
  | [], d :: b, _, _, _, hb, h => by simp at h; exact absurd h.1 (fun e => hb (by simp [e]))
  | c :: a, [], _, _, ha, _, h => by simp at h; exact absurd h.1 (fun e => ha (by simp [e]))
  | c :: a, d :: b, x, y, ha, hb, h => by
    simp only [List.cons_append, List.cons.injEq] at h
    obtain ⟨rfl, h⟩ := h
    obtain ⟨e1, e2⟩ := cut_inj (fun g => ha (by simp [g])) (fun g => hb (by simp [g])) h
    exact ⟨by rw [e1], e2⟩
theorem name_no {p : List UInt8} (h : nameQ p) : 47 ∉ p := by
  intro hm
  obtain ⟨i, hi, e⟩ := List.getElem_of_mem hm
  have := h.2.2 i hi
  unfold okAt at this
  have e2 : p.getD i 0 = 47 := by rw [List.getD, List.getElem?_eq_getElem hi]; exact e
  rw [e2] at this
  have h47 : (47 : UInt8).toNat = 47 := rfl
  omega
theorem dig_no (n : Nat) : 47 ∉ dig n := fun h => by
  have := dig_all n 47 h
  unfold isDig at this
  have h47 : (47 : UInt8).toNat = 47 := rfl
  omega
theorem itoa_no {n : Int} (h : 0 ≤ n) : 47 ∉ Lib.itoa n := by rw [itoa_dig h]; exact dig_no _
theorem itoa_inj {n m : Int} (h : 0 ≤ n) (g : 0 ≤ m) (e : Lib.itoa n = Lib.itoa m) : n = m := by
  rw [itoa_dig h, itoa_dig g] at e
  have := dig_inj e
  omega
theorem chan_no {n : Int} (h : 0 ≤ n) : 47 ∉ chn ++ Lib.itoa n := by
  intro hm
  rcases List.mem_append.1 hm with hm | hm
  · revert hm; decide
  · exact itoa_no h hm
inductive OfQ : List UInt8 → Int → List UInt8 → Int → Int → Prop
  | num {k p c q} (hk : 1 ≤ k ∧ k ≤ 3) (hp : nameQ p) (hc : 0 ≤ c ∧ c ≤ 999) (hq : 1 ≤ q ∧ q ≤ 1099511627776) :
      OfQ (wordP k ++ 47 :: (prts ++ 47 :: (p ++ 47 :: (chns ++ 47 :: ((chn ++ Lib.itoa c) ++ 47 :: (seqs ++ 47 :: Lib.itoa q)))))) k p c q
  | base {k p c} (hk : 4 ≤ k ∧ k ≤ 7) (hp : nameQ p) (hc : 0 ≤ c ∧ c ≤ 999) : OfQ (wordP k ++ 47 :: (prts ++ 47 :: (p ++ 47 :: (chns ++ 47 :: (chn ++ Lib.itoa c))))) k p c 0
theorem ofP_q {k : Int} {p : List UInt8} {c q : Int} : ofP k p c q = [] ∨ OfQ (ofP k p c q) k p c q := by
  unfold ofP
  split
  · exact .inl rfl
  rename_i h
  simp only [not_or, Decidable.not_not] at h
  obtain ⟨hw, hm⟩ := h
  have hm := mayP_t hm
  have hk : 1 ≤ k ∧ k ≤ 7 := by
    by_cases g : 1 ≤ k ∧ k ≤ 7
    · exact g
    · exact absurd (wordP_out (by omega)) hw
  split
  · split
    · right
      have := OfQ.num (k := k) (p := p) (c := c) (q := q) (by omega) hm.2.2.2 ⟨hm.2.1, hm.2.2.1⟩ (by assumption)
      simpa [baseP] using this
    · exact .inl rfl
  · split
    · subst_vars
      right
      have := OfQ.base (k := k) (p := p) (c := c) (by omega) hm.2.2.2 ⟨hm.2.1, hm.2.2.1⟩
      simpa [baseP] using this
    · exact .inl rfl
theorem OfQ.ne {s k p c q} (h : OfQ s k p c q) : s ≠ [] := by cases h <;> simp
theorem OfQ.inj {s k p c q k' p' c' q'} (h : OfQ s k p c q) (g : OfQ s k' p' c' q') : k = k' ∧ p = p' ∧ c = c' ∧ q = q' := by
  have main : ∀ {x y : List UInt8} {k k' : Int} {p p' : List UInt8}, (1 ≤ k ∧ k ≤ 7) → (1 ≤ k' ∧ k' ≤ 7) → nameQ p → nameQ p' →
      wordP k ++ 47 :: (prts ++ 47 :: (p ++ 47 :: (chns ++ 47 :: x))) = wordP k' ++ 47 :: (prts ++ 47 :: (p' ++ 47 :: (chns ++ 47 :: y))) → k = k' ∧ p = p' ∧ x = y := by
    intro x y k k' p p' h1 h2 h3 h4 e
    obtain ⟨e1, e⟩ := cut_inj (wordP_no k) (wordP_no k') e
    obtain ⟨_, e⟩ := cut_inj (by decide) (by decide) e
    obtain ⟨e2, e⟩ := cut_inj (name_no h3) (name_no h4) e
    obtain ⟨_, e⟩ := cut_inj (by decide) (by decide) e
    exact ⟨wordP_inj h1 h2 e1, e2, e⟩
  generalize hs : s = t at h g
  cases h with
  | num hk hp hc hq =>
    generalize hs : wordP k ++ 47 :: (prts ++ 47 :: (p ++ 47 :: (chns ++ 47 :: ((chn ++ Lib.itoa c) ++ 47 :: (seqs ++ 47 :: Lib.itoa q))))) = t at g
    cases g with
    | num hk' hp' hc' hq' =>
      obtain ⟨e1, e2, e⟩ := main (by omega) (by omega) hp hp' hs
      obtain ⟨e3, e⟩ := cut_inj (chan_no hc.1) (chan_no hc'.1) e
      obtain ⟨_, e⟩ := cut_inj (by decide) (by decide) e
      exact ⟨e1, e2, itoa_inj hc.1 hc'.1 (List.append_cancel_left e3), itoa_inj (by omega) (by omega) e⟩
    | base hk' hp' hc' =>
      obtain ⟨e1, e2, e⟩ := main (by omega) (by omega) hp hp' hs
      omega
  | base hk hp hc =>
    generalize hs : wordP k ++ 47 :: (prts ++ 47 :: (p ++ 47 :: (chns ++ 47 :: (chn ++ Lib.itoa c)))) = t at g
    cases g with
    | num hk' hp' hc' hq' =>
      obtain ⟨e1, e2, e⟩ := main (by omega) (by omega) hp hp' hs
      omega
    | base hk' hp' hc' =>
      obtain ⟨e1, e2, e⟩ := main (by omega) (by omega) hp hp' hs
      exact ⟨e1, e2, itoa_inj hc.1 hc'.1 (List.append_cancel_left e), rfl⟩
def sp : List UInt8 → List (List UInt8)
  | [] => [[]]
  | c :: t => if c = 47 then [] :: sp t else match sp t with | [] => [[c]] | x :: xs => (c :: x) :: xs
theorem sp_none : ∀ {a : List UInt8}, 47 ∉ a → sp a = [a]
  | [], _ => rfl
  | c :: t, h => by
    simp only [List.mem_cons, not_or] at h
    rw [sp, if_neg (fun e => h.1 e.symm), sp_none h.2]
theorem sp_cut : ∀ {a x : List UInt8}, 47 ∉ a → sp (a ++ 47 :: x) = a :: sp x
  | [], x, _ => by simp [sp]
  | c :: t, x, h => by
    simp only [List.mem_cons, not_or] at h
    rw [List.cons_append, sp, if_neg (fun e => h.1 e.symm), sp_cut h.2]
theorem OfQ.sp {s k p c q} (h : OfQ s k p c q) : sp s = if k ≤ 3 then [wordP k, prts, p, chns, chn ++ Lib.itoa c, seqs, Lib.itoa q] else [wordP k, prts, p, chns, chn ++ Lib.itoa c] := by
  cases h with
  | num hk hp hc hq =>
    rw [if_pos hk.2, sp_cut (wordP_no k), sp_cut (by decide), sp_cut (name_no hp), sp_cut (by decide), sp_cut (chan_no hc.1), sp_cut (by decide), sp_none (itoa_no (by omega))]
  | base hk hp hc =>
    rw [if_neg (by omega), sp_cut (wordP_no k), sp_cut (by decide), sp_cut (name_no hp), sp_cut (by decide), sp_none (chan_no hc.1)]
end Go.Proofs.YtmmmbmljompamaaGreatDoor

namespace Go.Proofs.YtmmmbmljompamaaGreatDoor
set_option linter.all false
open Go.RowKit
set_option maxRecDepth 100000
end Go.Proofs.YtmmmbmljompamaaGreatDoor

namespace Go.Proofs.YtmmmbmljompamaaGreatDoor
set_option linter.all false
open Go
set_option maxRecDepth 100000
end Go.Proofs.YtmmmbmljompamaaGreatDoor

namespace Go.Proofs.YtmmmbmljompamaaGreatDoor
set_option linter.all false
open Go.RowKit
set_option maxRecDepth 100000
end Go.Proofs.YtmmmbmljompamaaGreatDoor

namespace Go.Proofs.YtmmmbmljompamaaGreatDoor
set_option linter.all false
open Go.RowKit
set_option maxRecDepth 100000
end Go.Proofs.YtmmmbmljompamaaGreatDoor

namespace Go.Proofs.YtmmmbmljompamaaGreatDoor
set_option linter.all false
open Go.RowKit
set_option maxRecDepth 100000
theorem q_len {s k p c q} (h : OfQ s k p c q) : s.length ≤ 160 := by
  have hw := wordP_len k
  cases h with
  | num hk hp hc hq =>
    have h3 := dig_len3 hc
    have h13 := dig_len13 (c := q) (by omega)
    have := hp.2.1
    simp only [List.length_append, List.length_cons, List.length_nil]; omega
  | base hk hp hc =>
    have h3 := dig_len3 hc
    have := hp.2.1
    simp only [List.length_append, List.length_cons, List.length_nil]; omega
end Go.Proofs.YtmmmbmljompamaaGreatDoor

namespace Go.Proofs.YtmmmbmljompamaaGreatDoor
set_option linter.all false
open Go.RowKit Go.Lib
set_option maxRecDepth 100000
theorem ofP_len (k : Int) (p : List UInt8) (c q : Int) : (ofP k p c q).length ≤ 160 := by
  rcases @ofP_q k p c q with h | h
  · rw [h]; simp
  · exact q_len h
structure StI (L : List PrP) : Prop where
  rise : RiseS L
  may : ∀ q ∈ L, mayPr q.1 q.2 = true
  len : L.length ≤ 1000
def stD (s : Nat) : StS → Prop
  | none => True
  | some (g, _) => ¬ g = s ∧ ¬ s = g
theorem stOk.d {s : Nat} {L : List PrP} {x : StS} (h : stOk s L x) : stD s x := by
  rcases x with _ | ⟨g, cap⟩
  · trivial
  · exact h.1
end Go.Proofs.YtmmmbmljompamaaGreatDoor

namespace Go.Proofs.YtmmmbmljompamaaGreatDoor
set_option linter.all false
open Go.RowKit Go.Lib
set_option maxRecDepth 100000
end Go.Proofs.YtmmmbmljompamaaGreatDoor

namespace Go.Proofs.YtmmmbmljompamaaGreatDoor
set_option linter.all false
open Go.RowKit Go.Sort Go.Shelf
set_option maxRecDepth 100000
end Go.Proofs.YtmmmbmljompamaaGreatDoor

namespace Go.Proofs.YtmmmbmljompamaaGreatDoor
set_option linter.all false
open Go.RowKit Go.Lib
set_option maxRecDepth 100000
section
variable {P : Program} {d : Option Nat} {s : St} {K : St → Prop}
end
end Go.Proofs.YtmmmbmljompamaaGreatDoor

namespace Go.Proofs.YtmmmbmljompamaaGreatDoor
set_option linter.all false
open Go.RowKit Go.Lib
set_option maxRecDepth 100000
end Go.Proofs.YtmmmbmljompamaaGreatDoor

namespace Go.Proofs.YtmmmbmljompamaaGreatDoor
set_option linter.all false
open Go.RowKit Go.Lib
set_option maxRecDepth 100000
end Go.Proofs.YtmmmbmljompamaaGreatDoor

namespace Go.Proofs.YtmmmbmljompamaaGreatDoor
set_option linter.all false
open Go.RowKit Go.Lib
set_option maxRecDepth 100000
theorem rise_nil : RiseS [] := List.Pairwise.nil
structure StN (L : List PrP) (i : Nat) : Prop where
  rise : RiseS L
  may : ∀ q ∈ L, mayPr q.1 q.2 = true
  len : L.length ≤ i
theorem StN.I {L : List PrP} {i : Nat} (h : StN L i) (hi : i ≤ 1000) : StI L := ⟨h.rise, h.may, by have := h.len; omega⟩
theorem StN.nil : StN [] 0 := ⟨rise_nil, (fun q h => by cases h), Nat.le_refl _⟩
theorem StN.mono {L : List PrP} {i : Nat} (h : StN L i) : StN L (i + 1) := ⟨h.rise, h.may, by have := h.len; omega⟩
theorem setS_mem {L : List PrP} {k v : List UInt8} {q : PrP} (h : q ∈ setS L k v) : q = (k, v) ∨ q ∈ L := by
  unfold setS at h
  rcases List.mem_append.1 h with h | h
  · rcases List.mem_append.1 h with h | h
    · exact .inr (List.mem_of_mem_take h)
    · exact .inl (by simpa using h)
  · exact .inr (List.mem_of_mem_drop h)
theorem setS_len (L : List PrP) (k v : List UInt8) : (setS L k v).length ≤ L.length + 1 := by
  have hp := pos_le L k
  unfold setS
  split <;> simp <;> omega
theorem StN.set {L : List PrP} {i : Nat} (h : StN L i) {k v : List UInt8} (hm : mayPr k v = true) : StN (setS L k v) (i + 1) :=
  ⟨setS_rise h.rise k v, (fun q hq => by
    rcases setS_mem hq with rfl | hq
    · exact hm
    · exact h.may q hq), by have := h.len; have := setS_len L k v; omega⟩
theorem StN.put {L : List PrP} {i : Nat} (h : StN L i) (k v : List UInt8) : StN (putS L k v) (i + 1) := by
  unfold putS
  split
  · rename_i hm; exact h.set hm
  · exact h.mono
end Go.Proofs.YtmmmbmljompamaaGreatDoor

namespace Go.Proofs.YtmmmbmljompamaaGreatDoor
set_option linter.all false
open Go.RowKit Go.Sort Go.Shelf
set_option maxRecDepth 100000
end Go.Proofs.YtmmmbmljompamaaGreatDoor

namespace Go.Proofs.YtmmmbmljompamaaGreatDoor
set_option linter.all false
set_option maxRecDepth 100000
end Go.Proofs.YtmmmbmljompamaaGreatDoor

namespace Go.Proofs.YtmmmbmljompamaaGreatDoor
set_option linter.all false
open Go.RowKit
theorem findK_map {α : Type} [DecidableEq α] (ks : List Kd) (ag : Bool) (κ : α → AV) (h : ∀ a b, keyEq ks ag (κ a) (κ b) = some (decide (a = b))) (a : α) (l : List α) : ∀ i, findK ks ag (κ a) (l.map κ) i = some ((l.idxOf? a).map (· + i)) := by
  induction l with
  | nil => intro i; rfl
  | cons x r ih =>
    intro i
    simp only [List.map_cons, findK, h, List.idxOf?_cons]
    by_cases hx : a = x
    · subst hx; simp
    · have hx2 : (x == a) = false := by simp [Ne.symm hx]
      simp only [hx, decide_false, ih, hx2]
      cases r.idxOf? a <;> simp <;> omega
theorem findM_map {α : Type} [DecidableEq α] (ks : List Kd) (ag : Bool) (κ : α → AV) (h : ∀ a b, keyEq ks ag (κ a) (κ b) = some (decide (a = b))) (a : α) (l : List α) : findM ks ag (κ a) (l.map κ) = some (l.idxOf? a) := by
  simp only [findM, h, Option.bind_some, findK_map ks ag κ h]
  cases l.idxOf? a <;> simp
theorem findM_no {α : Type} [DecidableEq α] (ks : List Kd) (ag : Bool) (κ : α → AV) (h : ∀ a b, keyEq ks ag (κ a) (κ b) = some (decide (a = b))) (a : α) (l : List α) (hn : a ∉ l) : findM ks ag (κ a) (l.map κ) = some none := by
  rw [findM_map ks ag κ h, List.idxOf?_eq_none_iff.2 hn]
end Go.Proofs.YtmmmbmljompamaaGreatDoor

namespace Go.Proofs.YtmmmbmljompamaaGreatDoor
set_option linter.all false
open Go.RowKit
set_option maxRecDepth 100000
structure HdC where
  h : Int
  t : Int
  r : List Int
  n : r.length = 32
  deriving DecidableEq
instance : Inhabited HdC := ⟨⟨0, 0, List.replicate 32 0, by simp⟩⟩
def HdC.rt (x : HdC) : List AV := x.r.map (.int .u8 ·)
abbrev HdC.cs (x : HdC) : List AV := .int .i64 x.h :: .int .i64 x.t :: x.rt
theorem rt_len (x : HdC) : x.rt.length = 32 := by simp [HdC.rt, x.n]
theorem rt_take (x : HdC) : x.rt.take 32 = x.rt := by rw [List.take_of_length_le]; rw [rt_len]; omega
theorem rt_so (x : HdC) : x.rt.map AV.store = x.rt := by simp [HdC.rt, AV.store, AV.alias]
def hds (l : List HdC) : List (List AV) := l.map HdC.cs
def hdK (x : HdC) : AV := .agg x.cs
def markK (a : Int) : AV := .agg [.int .i64 a]
theorem markK_eq (a b : Int) : keyEq [.i] true (markK a) (markK b) = some (decide (a = b)) := by
  simp only [markK, keyEq, eqC_i, eqC_nil, oand_some, Bool.and_true]
end Go.Proofs.YtmmmbmljompamaaGreatDoor

namespace Go.Proofs.YtmmmbmljompamaaGreatDoor
set_option linter.all false
def stH (l : List HdC) (a : Int) : Option HdC := l.find? (fun x => decide (x.h = a))
def Asc (l : List HdC) : Prop := l.Pairwise fun x y => x.h < y.h
theorem stH_none {l : List HdC} {a : Int} (h : stH l a = none) : ∀ x ∈ l, x.h ≠ a := by
  unfold stH at h
  intro x hx e
  have := List.find?_eq_none.1 h x hx
  simp [e] at this
def Apart (l : List HdC) : Prop := l.Pairwise fun x y => x.h ≠ y.h
theorem Apart.one {l : List HdC} (h : Apart l) {x y : HdC} (hx : x ∈ l) (hy : y ∈ l) (e : x.h = y.h) : x = y := by
  induction l with
  | nil => cases hx
  | cons z r ih =>
    obtain ⟨h1, h2⟩ := List.pairwise_cons.1 h
    rcases List.mem_cons.1 hx with hx' | hx' <;> rcases List.mem_cons.1 hy with hy' | hy'
    · rw [hx', hy']
    · subst hx'; exact absurd e (h1 _ hy')
    · subst hy'; exact absurd e.symm (h1 _ hx')
    · exact ih h2 hx' hy'
theorem Asc.apart {l : List HdC} (h : Asc l) : Apart l := List.Pairwise.imp (fun h => by omega) h
end Go.Proofs.YtmmmbmljompamaaGreatDoor

namespace Go.Proofs.YtmmmbmljompamaaGreatDoor
set_option linter.all false
open Go.RowKit Go.Lib
set_option maxRecDepth 100000
def dropS (L : List PrP) (k : List UInt8) : List PrP := if hasS L k = true then L.take (posS L k) ++ L.drop (posS L k + 1) else L
theorem drop_sub (L : List PrP) (k : List UInt8) : (dropS L k).Sublist L := by
  unfold dropS
  split
  · have := List.Sublist.append (List.Sublist.refl (L.take (posS L k))) (List.drop_sublist_drop_left L (Nat.le_succ (posS L k)))
    rwa [List.take_append_drop] at this
  · exact List.Sublist.refl _
theorem drop_rise {L : List PrP} (h : RiseS L) (k : List UInt8) : RiseS (dropS L k) := List.Pairwise.sublist (drop_sub L k) h
theorem drop_I {L : List PrP} (h : StI L) (k : List UInt8) : StI (dropS L k) :=
  ⟨drop_rise h.rise k, fun q hq => h.may q ((drop_sub L k).subset hq), Nat.le_trans (drop_sub L k).length_le h.len⟩
theorem set_I {L : List PrP} (h : StI L) {k v : List UInt8} (hm : mayPr k v = true) (hl : L.length ≤ 999) : StI (setS L k v) := by
  have := StN.set (i := 999) ⟨h.rise, h.may, hl⟩ hm
  exact ⟨this.rise, this.may, this.len⟩
end Go.Proofs.YtmmmbmljompamaaGreatDoor

namespace Go.Proofs.YtmmmbmljompamaaGreatDoor
set_option linter.all false
open Go.RowKit Go.Lib
set_option maxRecDepth 100000
def vKey (k : Int) (p : List UInt8) (c q : Int) : Prop := mayP p c = true ∧ ((1 ≤ k ∧ k ≤ 3 ∧ 1 ≤ q ∧ q ≤ 1099511627776) ∨ (4 ≤ k ∧ k ≤ 7 ∧ q = 0))
theorem vKey.q {k : Int} {p : List UInt8} {c q : Int} (h : vKey k p c q) : OfQ (ofP k p c q) k p c q := by
  rcases @ofP_q k p c q with e | e
  · exfalso
    obtain ⟨hm, hk⟩ := h
    unfold ofP at e
    rw [if_neg (by rintro (h1 | h1); exact wordP_in (by omega) h1; exact h1 hm)] at e
    rcases hk with hk | hk
    · rw [if_pos (by omega), if_pos (by omega)] at e; simp [baseP] at e
    · rw [if_neg (by omega), if_pos hk.2.2] at e; simp [baseP] at e
  · exact e
theorem vKey.ne {k k' : Int} {p p' : List UInt8} {c c' q q' : Int} (h : vKey k p c q) (h' : vKey k' p' c' q') (hn : ¬ (k = k' ∧ p = p' ∧ c = c' ∧ q = q')) : ofP k p c q ≠ ofP k' p' c' q' := by
  intro e
  have a := h.q
  rw [e] at a
  exact hn (a.inj h'.q)
theorem vKey.may {k : Int} {p : List UInt8} {c q : Int} (h : vKey k p c q) {v : List UInt8} (hv : 1 ≤ v.length ∧ v.length ≤ 64) : mayPr (ofP k p c q) v = true := by
  have h1 := List.length_pos_iff.2 h.q.ne
  have h2 := ofP_len k p c q
  unfold mayPr
  rw [decide_eq_true (by omega)]
structure StB (L : List PrP) (n : Nat) : Prop where
  I : StI L
  b : L.length ≤ n
theorem StB.set {L : List PrP} {n : Nat} (h : StB L n) (hn : n ≤ 990) {k v : List UInt8} (hm : mayPr k v = true) : StB (setS L k v) (n + 1) :=
  ⟨set_I h.I hm (by have := h.b; omega), by have := setS_len L k v; have := h.b; omega⟩
theorem StB.drop {L : List PrP} {n : Nat} (h : StB L n) (k : List UInt8) : StB (dropS L k) n := ⟨drop_I h.I k, Nat.le_trans (drop_sub L k).length_le h.b⟩
theorem StB.mono {L : List PrP} {n m : Nat} (h : StB L n) (hm : n ≤ m) : StB L m := ⟨h.I, Nat.le_trans h.b hm⟩
end Go.Proofs.YtmmmbmljompamaaGreatDoor

namespace Go.Proofs.YtmmmbmljompamaaGreatDoor
set_option linter.all false
open Go.RowKit Go.Lib
set_option maxRecDepth 100000
end Go.Proofs.YtmmmbmljompamaaGreatDoor

namespace Go.Proofs.YtmmmbmljompamaaGreatDoor
set_option linter.all false
open Go.RowKit
set_option maxRecDepth 100000
theorem hz_rules {x : Hs} (h : x.length = 32) : (hcs x).map AV.store = hcs x ∧ splice z32 0 (hcs x) = hcs x ∧ (hcs x).take 32 = hcs x ∧ (hcs x).length = 32 := by
  have hl : (hcs x).length = 32 := by rw [List.length_map, h]
  exact ⟨by rw [List.map_map]; rfl, splice_whole z32 _ (by rw [hl]; rfl), List.take_of_length_le (by omega), hl⟩
end Go.Proofs.YtmmmbmljompamaaGreatDoor

namespace Go.Proofs.YtmmmbmljompamaaGreatDoor
set_option linter.all false
open Go.RowKit
set_option maxRecDepth 100000
end Go.Proofs.YtmmmbmljompamaaGreatDoor
