import Derived.Test.YtmmmbmljompamaaGreatDoorK8
import Derived.Test.YtmmmbmljompamaaGreatDoorK9
import Derived.Test.YtmmmbmljompamaaGreatDoorK10
import Derived.Test.YtmmmbmljompamaaGreatDoorK7
import Derived.Lib.Join
import Derived.Shelf.Strings.Repeat
import Derived.Shelf.Strings.OnBuilder
namespace Go.Proofs.YtmmmbmljompamaaGreatDoor
set_option linter.all false
set_option maxRecDepth 100000
end Go.Proofs.YtmmmbmljompamaaGreatDoor

namespace Go.Proofs.YtmmmbmljompamaaGreatDoor
set_option linter.all false
def rnum (s : List UInt8) (least most : Int) (x : Int × Int) : Int × Int × Int :=
  if x.2 ≠ 0 then (0, x.1, x.2) else if (nx s x.1).2.2 ≠ 0 then (0, x.1, (nx s x.1).2.2)
  else if (nx s x.1).1 < least ∨ most < (nx s x.1).1 then (0, x.1, 1) else ((nx s x.1).1, (nx s x.1).2.1, 0)
def rtext (s : List UInt8) (most : Int) (x : Int × Int) : List UInt8 × Int × Int :=
  if x.2 ≠ 0 then ([], x.1, x.2) else if (nx s x.1).2.2 ≠ 0 then ([], x.1, (nx s x.1).2.2)
  else if most < (nx s x.1).1 then ([], x.1, 4) else if (s.length : Int) - (nx s x.1).2.1 < (nx s x.1).1 then ([], x.1, 2)
  else ((s.take ((nx s x.1).2.1 + (nx s x.1).1).toNat).drop (nx s x.1).2.1.toNat, (nx s x.1).2.1 + (nx s x.1).1, 0)
end Go.Proofs.YtmmmbmljompamaaGreatDoor

namespace Go.Proofs.YtmmmbmljompamaaGreatDoor
set_option linter.all false
set_option maxRecDepth 100000


abbrev rd (s : List UInt8) (n : Int) (bad : Int) : List AV := [.str s, .int .i64 n, .int .i64 bad]
theorem sxWir {A B : Prop} (h : B) (e : A = B := by (simp (disch := omega) only [*, ↓Ed, Eu, ↓reduceIte, reduceCtorEq, Nat.reduceAdd, Nat.reduceEqDiff, Nat.reduceLT, Nat.reduceLeDiff, Int.reduceToNat, Int.reduceEq, Int.reduceLT, Int.reduceLE, w64, List.length_map]; first | done | rfl)) : A := e ▸ h
theorem p_New : CT Tryz.prog 35 [] (fun _ => none) (fun r o => ∃ b, r = .ptr b 0 ∧ o = lk [(b, [.nils 5 1, .bool false])]) := by
  refine okt_wire_New _ _ _ (by simp) ?_
  rw [show (fun _ => none : Nat → Option (List AV)) = lk [] from rfl]
  simp only [c_wire_New, ↓Ed, Eu, ↓reduceIte, reduceCtorEq, Nat.reduceAdd, Nat.reduceEqDiff, Nat.reduceLT, Nat.reduceLeDiff, Int.reduceToNat, Int.reduceEq, Int.reduceLT, Int.reduceLE, w64, List.length_map]
  repeat' ((first | refine NewB_intro0 (fun b => ?_) | (refine NewB_intro (fun b hb => ?_); simp only [ln_cons2, ln_nil, and_true] at hb) | (with_reducible apply wA; focus exact OM_a) | ((first | refine gW_sp ?_ | refine condW_sp ?_ | refine pickW_sp ?_); (try refine Sp_n ?_); (first | refine wT ?_ | refine wF ?_ | refine wL (fun h h' => ?_) (fun h h' => ?_) | refine wE (fun h h' => ?_) (fun h h' => ?_) | refine Sp_split (fun h => ?_) (fun h => ?_)) <;> (try (exfalso; omega))) | refine TreeW_intro (by rfl) ?_ | refine TreeW_all ?_ | refine upQ_intro ?_ | refine Two_intro ?_ ?_ | exact wZ | fail) <;> (try refine sxWir ?_) <;> (try exact True.intro))
  all_goals exact ro_new (b := b) (by simp [LeL, lk, resR, arR])

abbrev wrc (out : List UInt8) (bad : Bool) : List AV := [.sl (some 5) 1 (btl out), .bool bad]
theorem p_put (b : Nat) (out s : List UInt8) (bad : Bool) (hl : out.length + s.length ≤ 1000000) :
    CT Tryz.prog 50 [.ptr b 0, .str s] (lk [(b, wrc out bad)]) (fun r o => r = .tup [] ∧ o = lk [(b, wrc (if bad then out else out ++ s) bad)]) := by
  have hm := max_bigL
  refine okt_wire_Writer_put _ _ _ (by simp) ?_
  simp only [c_wire_Writer_put, ↓Ed, Eu, ↓reduceIte, reduceCtorEq, Nat.reduceAdd, Nat.reduceEqDiff, Nat.reduceLT, Nat.reduceLeDiff, Int.reduceToNat, Int.reduceEq, Int.reduceLT, Int.reduceLE, w64, List.length_map]
  repeat' ((first | refine NewB_intro0 (fun b => ?_) | (refine NewB_intro (fun b hb => ?_); simp only [ln_cons2, ln_nil, and_true] at hb) | (with_reducible apply wA; focus exact OM_a) | ((first | refine gW_sp ?_ | refine condW_sp ?_ | refine pickW_sp ?_); (try refine Sp_n ?_); (first | refine wT ?_ | refine wF ?_ | refine wL (fun h h' => ?_) (fun h h' => ?_) | refine wE (fun h h' => ?_) (fun h h' => ?_) | refine Sp_split (fun h => ?_) (fun h => ?_)) <;> (try (exfalso; omega))) | refine TreeW_intro (by rfl) ?_ | refine TreeW_all ?_ | refine upQ_intro ?_ | refine Two_intro ?_ ?_ | exact wZ | fail) <;> (try refine sxWir ?_) <;> (try exact True.intro))
  all_goals simp only [Fact, Bool.not_eq_true', Bool.not_eq_false', decide_eq_true_eq, decide_eq_false_iff_not] at h
  all_goals exact ro_mk (by simp [LeL, lk, r_nil, btl, wrc, h]) dom1
abbrev wr0 (bad : Bool) : List AV := [.nils 5 1, .bool bad]
theorem p_put0 (b : Nat) (s : List UInt8) (hl : s.length ≤ 1000000) :
    CT Tryz.prog 50 [.ptr b 0, .str s] (lk [(b, wr0 false)]) (fun r o => r = .tup [] ∧ o = lk [(b, wrc s false)]) := by
  have hm := max_bigL
  refine okt_wire_Writer_put _ _ _ (by simp) ?_
  simp only [c_wire_Writer_put, ↓Ed, Eu, ↓reduceIte, reduceCtorEq, Nat.reduceAdd, Nat.reduceEqDiff, Nat.reduceLT, Nat.reduceLeDiff, Int.reduceToNat, Int.reduceEq, Int.reduceLT, Int.reduceLE, w64, List.length_map]
  repeat' ((first | refine NewB_intro0 (fun b => ?_) | (refine NewB_intro (fun b hb => ?_); simp only [ln_cons2, ln_nil, and_true] at hb) | (with_reducible apply wA; focus exact OM_a) | ((first | refine gW_sp ?_ | refine condW_sp ?_ | refine pickW_sp ?_); (try refine Sp_n ?_); (first | refine wT ?_ | refine wF ?_ | refine wL (fun h h' => ?_) (fun h h' => ?_) | refine wE (fun h h' => ?_) (fun h h' => ?_) | refine Sp_split (fun h => ?_) (fun h => ?_)) <;> (try (exfalso; omega))) | refine TreeW_intro (by rfl) ?_ | refine TreeW_all ?_ | refine upQ_intro ?_ | refine Two_intro ?_ ?_ | exact wZ | fail) <;> (try refine sxWir ?_) <;> (try exact True.intro))
  all_goals exact ro_mk (by simp [LeL, lk, r_nil, btl, wrc]) dom1
theorem p_Bytes (b : Nat) (out : List UInt8) (bad : Bool) : CT Tryz.prog 39 [.ptr b 0] (lk [(b, wrc out bad)])
    (fun r o => r = .tup [.str (if bad then [] else out), .int .i64 (if bad then 1 else 0)] ∧ o = lk [(b, wrc out bad)]) := by
  refine okt_wire_Writer_Bytes _ _ _ (by simp) ?_
  simp only [c_wire_Writer_Bytes, ↓Ed, Eu, ↓reduceIte, reduceCtorEq, Nat.reduceAdd, Nat.reduceEqDiff, Nat.reduceLT, Nat.reduceLeDiff, Int.reduceToNat, Int.reduceEq, Int.reduceLT, Int.reduceLE, w64, List.length_map]
  repeat' ((first | refine NewB_intro0 (fun b => ?_) | (refine NewB_intro (fun b hb => ?_); simp only [ln_cons2, ln_nil, and_true] at hb) | (with_reducible apply wA; focus exact OM_a) | ((first | refine gW_sp ?_ | refine condW_sp ?_ | refine pickW_sp ?_); (try refine Sp_n ?_); (first | refine wT ?_ | refine wF ?_ | refine wL (fun h h' => ?_) (fun h h' => ?_) | refine wE (fun h h' => ?_) (fun h h' => ?_) | refine Sp_split (fun h => ?_) (fun h => ?_)) <;> (try (exfalso; omega))) | refine TreeW_intro (by rfl) ?_ | refine TreeW_all ?_ | refine upQ_intro ?_ | refine Two_intro ?_ ?_ | exact wZ | fail) <;> (try refine sxWir ?_) <;> (try exact True.intro))
  all_goals simp only [Fact, Bool.not_eq_true', Bool.not_eq_false', decide_eq_true_eq, decide_eq_false_iff_not] at h
  all_goals exact ro_mk (by simp [LeL, lk, r_two, resL, arR, AV.alias, h]) dom1
theorem p_WNum (b : Nat) (out : List UInt8) (bad : Bool) (v : Int) (hl : out.length ≤ 900000) :
    CT Tryz.prog 37 [.ptr b 0, .int .i64 v] (lk [(b, wrc out bad)])
      (fun r o => r = .tup [] ∧ o = lk [(b, wrc (if bad || decide (pn v = []) then out else out ++ pn v) (bad || decide (pn v = [])))]) := by
  have h8 := pn_len v
  refine okt_wire_Writer_Num _ _ _ (by simp) ?_
  simp only [c_wire_Writer_Num, ↓Ed, Eu, ↓reduceIte, reduceCtorEq, Nat.reduceAdd, Nat.reduceEqDiff, Nat.reduceLT, Nat.reduceLeDiff, Int.reduceToNat, Int.reduceEq, Int.reduceLT, Int.reduceLE, w64, List.length_map]
  repeat' ((first | refine CallO_pure (p_Put _) ?_ | refine c1 (p_put _ out (pn v) _ (by omega)) ?_ | refine NewB_intro0 (fun b => ?_) | (refine NewB_intro (fun b hb => ?_); simp only [ln_cons2, ln_nil, and_true] at hb) | (with_reducible apply wA; focus exact OM_a) | ((first | refine gW_sp ?_ | refine condW_sp ?_ | refine pickW_sp ?_); (try refine Sp_n ?_); (first | refine wT ?_ | refine wF ?_ | refine wL (fun h h' => ?_) (fun h h' => ?_) | refine wE (fun h h' => ?_) (fun h h' => ?_) | refine Sp_split (fun h => ?_) (fun h => ?_)) <;> (try (exfalso; omega))) | refine TreeW_intro (by rfl) ?_ | refine TreeW_all ?_ | refine upQ_intro ?_ | refine Two_intro ?_ ?_ | exact wZ | fail) <;> (try refine sxWir ?_) <;> (try exact True.intro))
  all_goals simp only [Fact, Bool.not_eq_true', Bool.not_eq_false', decide_eq_true_eq, decide_eq_false_iff_not] at h
  all_goals exact ro_mk (by simp [LeL, lk, r_nil, wrc, h]) dom1
end Go.Proofs.YtmmmbmljompamaaGreatDoor

namespace Go.Proofs.YtmmmbmljompamaaGreatDoor
set_option linter.all false
set_option maxRecDepth 100000
end Go.Proofs.YtmmmbmljompamaaGreatDoor

namespace Go.Proofs.YtmmmbmljompamaaGreatDoor
set_option linter.all false
def okAt (s : List UInt8) (j : Nat) : Prop := (97 ≤ (s.getD j 0).toNat ∧ (s.getD j 0).toNat ≤ 122) ∨ j ≠ 0 ∧ ((48 ≤ (s.getD j 0).toNat ∧ (s.getD j 0).toNat ≤ 57) ∨ (s.getD j 0).toNat = 45)
def nameQ (s : List UInt8) : Prop := s ≠ [] ∧ s.length ≤ 12 ∧ ∀ j, j < s.length → okAt s j
open Classical in
noncomputable def nameP (s : List UInt8) : Bool := decide (nameQ s)
theorem nameP_t {s : List UInt8} (h : nameQ s) : nameP s = true := by simp [nameP, h]
theorem nameP_f {s : List UInt8} (h : ¬ nameQ s) : nameP s = false := by simp [nameP, h]
theorem nameP_iff {s : List UInt8} : nameP s = true ↔ nameQ s := by simp [nameP]
theorem name_bad {s : List UInt8} {k : Nat} (hk : k < s.length) (h : ¬ okAt s k) : false = nameP s := (nameP_f fun g => h (g.2.2 k hk)).symm
theorem name_end {s : List UInt8} {k : Nat} (hk : s.length ≤ k) (h : ∀ j, j < k → okAt s j) : nameQ s ↔ s ≠ [] ∧ s.length ≤ 12 := ⟨fun g => ⟨g.1, g.2.1⟩, fun g => ⟨g.1, g.2, fun j hj => h j (by omega)⟩⟩
theorem name_dec {s : List UInt8} {k : Nat} (hk : s.length ≤ k) (h : ∀ j, j < k → okAt s j) : nameP s = decide (s.length ≠ 0 ∧ s.length ≤ 12) := by
  unfold nameP
  rw [decide_eq_decide, name_end hk h, ne_eq, ← List.length_eq_zero_iff]
noncomputable def mayP (p : List UInt8) (c : Int) : Bool := nameP p && decide (0 ≤ c) && decide (c ≤ 999)
theorem name_step {s : List UInt8} {k : Nat} (h : ∀ j, j < k → okAt s j) (g : okAt s k) : ∀ j, j < k + 1 → okAt s j := fun j hj => by
  by_cases e : j = k
  · subst e; exact g
  · exact h j (by omega)
end Go.Proofs.YtmmmbmljompamaaGreatDoor

namespace Go.Proofs.YtmmmbmljompamaaGreatDoor
set_option linter.all false
set_option maxRecDepth 100000
theorem st_nil (s : List UInt8) : (s = ([] : List UInt8)) = (s.length = 0) := by simp [List.length_eq_zero_iff]
theorem sxPna {A B : Prop} (h : B) (e : A = B := by (simp (disch := omega) only [*, ↓Ed, Eu, ↓reduceIte, reduceCtorEq, Nat.reduceAdd, Nat.reduceEqDiff, Nat.reduceLT, Nat.reduceLeDiff, Int.reduceToNat, Int.reduceEq, Int.reduceLT, Int.reduceLE, w64, st_nil]; first | done | rfl)) : A := e ▸ h
set_option maxHeartbeats 4000000 in
theorem p_Name (s : List UInt8) (hs : s.length ≤ 4611686018427387904) : CP Tryz.prog 26 [.str s] (.bool (nameP s)) := by
  refine ok_path_Name _ _ (by simp) ?_
  simp only [c_path_Name, ↓Ed, Eu, ↓reduceIte, reduceCtorEq, Nat.reduceAdd, Nat.reduceEqDiff, Nat.reduceLT, Nat.reduceLeDiff, Int.reduceToNat, Int.reduceEq, Int.reduceLT, Int.reduceLE, w64, st_nil]
  repeat' ((first | refine NewB_intro0 (fun b => ?_) | (refine NewB_intro (fun b hb => ?_); simp only [ln_cons2, ln_nil, and_true] at hb) | (with_reducible apply wA; focus exact OM_a) | ((first | refine gW_sp ?_ | refine condW_sp ?_ | refine pickW_sp ?_); (try refine Sp_n ?_); (first | refine wT ?_ | refine wF ?_ | refine wL (fun h h' => ?_) (fun h h' => ?_) | refine wE (fun h h' => ?_) (fun h h' => ?_) | refine Sp_split (fun h => ?_) (fun h => ?_)) <;> (try (exfalso; omega))) | refine TreeW_intro (by rfl) ?_ | refine TreeW_all ?_ | refine upQ_intro ?_ | refine Two_intro ?_ ?_ | exact wZ | fail) <;> (try refine sxPna ?_) <;> (try exact True.intro))
  refine wpx_loop (fun k : Nat => ⟨lk [(0, .str s), (7, .int .i64 s.length), (8, .int .i64 k)], lk []⟩) (fun k => k ≤ s.length ∧ Fact (∀ j, j < k → okAt s j)) (fun k => s.length - k) 0 ⟨by omega, fun j h => by omega⟩ (Le_lit (by simp [LeL, lk])) ?_
  intro k ⟨h1, h2⟩
  simp only [↓Ed, Eu, ↓reduceIte, reduceCtorEq, Nat.reduceAdd, Nat.reduceEqDiff, Nat.reduceLT, Nat.reduceLeDiff, Int.reduceToNat, Int.reduceEq, Int.reduceLT, Int.reduceLE, w64, st_nil]
  repeat' ((first | refine NewB_intro0 (fun b => ?_) | (refine NewB_intro (fun b hb => ?_); simp only [ln_cons2, ln_nil, and_true] at hb) | (with_reducible apply wA; focus exact OM_a) | ((first | refine gW_sp ?_ | refine condW_sp ?_ | refine pickW_sp ?_); (try refine Sp_n ?_); (first | refine wT ?_ | refine wF ?_ | refine wL (fun h h' => ?_) (fun h h' => ?_) | refine wE (fun h h' => ?_) (fun h h' => ?_) | refine Sp_split (fun h => ?_) (fun h => ?_)) <;> (try (exfalso; omega))) | refine TreeW_intro (by rfl) ?_ | refine TreeW_all ?_ | refine upQ_intro ?_ | refine Two_intro ?_ ?_ | exact wZ | fail) <;> (try refine sxPna ?_) <;> (try exact True.intro))
  all_goals simp only [Fact, Bool.not_eq_true', Bool.not_eq_false', decide_eq_true_eq, decide_eq_false_iff_not, st_nil] at *
  all_goals first
    | (refine Round_lit (k + 1) ⟨Le_lit (by simp [LeL, lk]), ⟨by omega, name_step h2 (by unfold okAt; omega)⟩, by omega⟩; done)
    | (refine name_bad (k := k) (by omega) (by unfold okAt; omega); done)
    | (exact (nameP_f fun g => g.1 (List.eq_nil_of_length_eq_zero (by omega))).symm)
    | (rw [name_dec (by omega) h2, decide_eq_decide]; omega)
    | skip
end Go.Proofs.YtmmmbmljompamaaGreatDoor

namespace Go.Proofs.YtmmmbmljompamaaGreatDoor
set_option linter.all false
structure Es where
  p : List UInt8
  c : Int
  o : Bool
  cl : Bool
  st : Int
abbrev Es.cs (x : Es) : List AV := [.str x.p, .int .i64 x.c, .bool x.o, .bool x.cl, .int .i64 x.st]
noncomputable def Es.may (x : Es) : Bool := mayP x.p x.c && (if x.cl && x.o then decide (1 ≤ x.st) && decide (x.st ≤ 1099511627777) else decide (x.st = 0))
def bitP (b : Bool) : Int := if b then 1 else 0
def Es.enc (x : Es) : List UInt8 := pn (bitP x.cl) ++ pn (bitP x.o) ++ (pn x.p.length ++ x.p) ++ pn x.c ++ pn x.st
def Es.zero : Es := ⟨[], 0, false, false, 0⟩
def dcl (v : List UInt8) := rnum v 0 1 (0, 0)
def dor (v : List UInt8) := rnum v 0 1 (dcl v).2
def dpo (v : List UInt8) := rtext v 12 (dor v).2
def dch (v : List UInt8) := rnum v 0 999 (dpo v).2
def dst (v : List UInt8) := rnum v 0 1099511627777 (dch v).2
def Es.of (v : List UInt8) : Es := ⟨(dpo v).1, (dch v).1, decide ((dor v).1 = 1), decide ((dcl v).1 = 1), (dst v).1⟩
end Go.Proofs.YtmmmbmljompamaaGreatDoor

namespace Go.Proofs.YtmmmbmljompamaaGreatDoor
set_option linter.all false
end Go.Proofs.YtmmmbmljompamaaGreatDoor

namespace Go.Proofs.YtmmmbmljompamaaGreatDoor
set_option linter.all false
set_option maxRecDepth 100000
theorem sxEnd {A B : Prop} (h : B) (e : A = B := by (simp (disch := omega) only [*, ↓Ed, Eu, ↓reduceIte, reduceCtorEq, Nat.reduceAdd, Nat.reduceEqDiff, Nat.reduceLT, Nat.reduceLeDiff, Int.reduceToNat, Int.reduceEq, Int.reduceLT, Int.reduceLE, w64, List.length_map, List.length_append]; first | done | rfl)) : A := e ▸ h
theorem p_WNumOk (b : Nat) (out : List UInt8) (v : Int) (hv : 0 ≤ v ∧ v ≤ 72057594037927935) (hl : out.length ≤ 900000) :
    CT Tryz.prog 37 [.ptr b 0, .int .i64 v] (lk [(b, wrc out false)]) (fun r o => r = .tup [] ∧ o = lk [(b, wrc (out ++ pn v) false)]) := by
  have h : pn v ≠ [] := fun e => (pn_nil v).1 e hv
  have := p_WNum b out false v hl
  simpa only [h, decide_false, Bool.or_self, Bool.false_eq_true, if_false] using this
theorem p_WNum0 (b : Nat) (v : Int) (hv : 0 ≤ v ∧ v ≤ 72057594037927935) :
    CT Tryz.prog 37 [.ptr b 0, .int .i64 v] (lk [(b, wr0 false)]) (fun r o => r = .tup [] ∧ o = lk [(b, wrc (pn v) false)]) := by
  have h : pn v ≠ [] := fun e => (pn_nil v).1 e hv
  have hd : decide (pn v = []) = false := decide_eq_false h
  have h8 := pn_len v
  refine okt_wire_Writer_Num _ _ _ (by simp) ?_
  simp only [c_wire_Writer_Num, hd, ↓Ed, Eu, ↓reduceIte, reduceCtorEq, Nat.reduceAdd, Nat.reduceEqDiff, Nat.reduceLT, Nat.reduceLeDiff, Int.reduceToNat, Int.reduceEq, Int.reduceLT, Int.reduceLE, w64, List.length_map, List.length_append]
  repeat' ((first | refine CallO_pure (p_Put _) ?_ | refine c1 (p_put0 _ (pn v) (by omega)) ?_ | refine NewB_intro0 (fun b => ?_) | (refine NewB_intro (fun b hb => ?_); simp only [ln_cons2, ln_nil, and_true] at hb) | (with_reducible apply wA; focus exact OM_a) | ((first | refine gW_sp ?_ | refine condW_sp ?_ | refine pickW_sp ?_); (try refine Sp_n ?_); (first | refine wT ?_ | refine wF ?_ | refine wL (fun h h' => ?_) (fun h h' => ?_) | refine wE (fun h h' => ?_) (fun h h' => ?_) | refine Sp_split (fun h => ?_) (fun h => ?_)) <;> (try (exfalso; omega))) | refine TreeW_intro (by rfl) ?_ | refine TreeW_all ?_ | refine upQ_intro ?_ | refine Two_intro ?_ ?_ | exact wZ | fail) <;> (try refine sxEnd ?_) <;> (try exact True.intro))
  all_goals exact ro_mk (by simp [LeL, lk, r_nil, wrc]) dom1
end Go.Proofs.YtmmmbmljompamaaGreatDoor

namespace Go.Proofs.YtmmmbmljompamaaGreatDoor
set_option linter.all false
open Go.RowKit
abbrev Wd := BitVec 32
def wI (x : Wd) : Int := (x.toNat : Int)
abbrev aW (x : Wd) : AV := .int .u32 (wI x)
theorem wrap_u32 (n : Int) : IntKind.wrap .u32 n = n % 4294967296 := rfl
theorem wI_lt (x : Wd) : 0 ≤ wI x ∧ wI x < 4294967296 := by
  have := x.isLt
  unfold wI; omega
theorem wI_mod (x : Wd) : wI x % 4294967296 = wI x := Int.emod_eq_of_lt (wI_lt x).1 (wI_lt x).2
theorem w_of (x : Wd) : BitVec.ofInt 32 (wI x) = x := by
  unfold wI; simp
theorem w_add (x y : Wd) : IntKind.wrap .u32 (wI x + wI y) = wI (x + y) := by
  rw [wrap_u32]; unfold wI; rw [BitVec.toNat_add]; omega
theorem w_xor (x y : Wd) : IntKind.wrap .u32 ((BitVec.ofInt (IntKind.bits .u32) (wI x) ^^^ BitVec.ofInt (IntKind.bits .u32) (wI y)).toNat) = wI (x ^^^ y) := by
  show IntKind.wrap .u32 (((BitVec.ofInt 32 (wI x)) ^^^ (BitVec.ofInt 32 (wI y))).toNat : Int) = _
  rw [w_of, w_of, wrap_u32]; exact wI_mod _
theorem w_and (x y : Wd) : IntKind.wrap .u32 ((BitVec.ofInt (IntKind.bits .u32) (wI x) &&& BitVec.ofInt (IntKind.bits .u32) (wI y)).toNat) = wI (x &&& y) := by
  show IntKind.wrap .u32 (((BitVec.ofInt 32 (wI x)) &&& (BitVec.ofInt 32 (wI y))).toNat : Int) = _
  rw [w_of, w_of, wrap_u32]; exact wI_mod _
theorem w_or (x y : Wd) : IntKind.wrap .u32 ((BitVec.ofInt (IntKind.bits .u32) (wI x) ||| BitVec.ofInt (IntKind.bits .u32) (wI y)).toNat) = wI (x ||| y) := by
  show IntKind.wrap .u32 (((BitVec.ofInt 32 (wI x)) ||| (BitVec.ofInt 32 (wI y))).toNat : Int) = _
  rw [w_of, w_of, wrap_u32]; exact wI_mod _
theorem w_not (x : Wd) : IntKind.wrap .u32 ((BitVec.ofInt (IntKind.bits .u32) (if IntKind.signed .u32 = true then -1 else IntKind.max .u32) ^^^ BitVec.ofInt (IntKind.bits .u32) (wI x)).toNat) = wI (~~~x) := by
  show IntKind.wrap .u32 (((BitVec.ofInt 32 4294967295) ^^^ (BitVec.ofInt 32 (wI x))).toNat : Int) = _
  rw [w_of, wrap_u32, show BitVec.ofInt 32 4294967295 = BitVec.allOnes 32 from rfl, BitVec.allOnes_xor]; exact wI_mod _
theorem pow_cast (m : Nat) : ((2 : Int) ^ m) = ((2 ^ m : Nat) : Int) := by
  induction m with
  | zero => rfl
  | succ m ih => rw [Int.pow_succ, ih, Nat.pow_succ]; rfl
theorem w_shr (x : Wd) (n : Nat) : (wI x).fdiv (2 ^ (min n (IntKind.bits .u32))) = wI (x >>> n) := by
  show (wI x).fdiv (2 ^ (min n 32)) = _
  unfold wI
  rw [BitVec.toNat_ushiftRight, Nat.shiftRight_eq_div_pow, pow_cast, Int.fdiv_eq_ediv_of_nonneg _ (Int.natCast_nonneg _)]
  have key : x.toNat / 2 ^ (min n 32) = x.toNat / 2 ^ n := by
    rcases Nat.le_total n 32 with h | h
    · rw [Nat.min_eq_left h]
    · rw [Nat.min_eq_right h, Nat.div_eq_of_lt x.isLt, Nat.div_eq_of_lt (Nat.lt_of_lt_of_le x.isLt (Nat.pow_le_pow_right (by omega) h))]
  rw [← key]; rfl
theorem w_shl (x : Wd) (n : Nat) : IntKind.wrap .u32 (wI x * 2 ^ (min n (IntKind.bits .u32))) = wI (x <<< n) := by
  show IntKind.wrap .u32 (wI x * 2 ^ (min n 32)) = _
  rw [wrap_u32]
  unfold wI
  rw [BitVec.toNat_shiftLeft, Nat.shiftLeft_eq, pow_cast]
  have key : x.toNat * 2 ^ (min n 32) % 4294967296 = x.toNat * 2 ^ n % 2 ^ 32 := by
    rcases Nat.le_total n 32 with h | h
    · rw [Nat.min_eq_left h]
    · rw [Nat.min_eq_right h]
      have h1 : x.toNat * 2 ^ n % 2 ^ 32 = 0 := by
        rw [show n = 32 + (n - 32) by omega, Nat.pow_add, ← Nat.mul_assoc, Nat.mul_right_comm]
        exact Nat.mul_mod_left _ _
      rw [h1]; exact Nat.mul_mod_left _ _
  rw [← key]; rfl
theorem w_u8 (b : UInt8) : IntKind.wrap .u32 (b.toNat : Int) = wI (BitVec.ofNat 32 b.toNat) := by
  rw [wrap_u32]; unfold wI
  have := b.toNat_lt
  rw [BitVec.toNat_ofNat]; omega
def wB (x : Wd) : UInt8 := UInt8.ofNat x.toNat
theorem w_to8 (x : Wd) : IntKind.wrap .u8 (wI x) = ((wB x).toNat : Int) := by
  show wI x % 256 = _
  unfold wB wI
  rw [UInt8.toNat_ofNat']; omega
def rot (x : Wd) (n : Nat) : Wd := (x <<< (32 - n)) ||| (x >>> n)
structure S8 where
  a : Wd
  b : Wd
  c : Wd
  d : Wd
  e : Wd
  f : Wd
  g : Wd
  h : Wd
abbrev S8.l (s : S8) : List Wd := [s.a, s.b, s.c, s.d, s.e, s.f, s.g, s.h]
abbrev S8.c8 (s : S8) : List AV := [aW s.a, aW s.b, aW s.c, aW s.d, aW s.e, aW s.f, aW s.g, aW s.h]
def stepT (s : S8) (k w : Wd) : Wd := s.h + ((rot s.e 6 ^^^ rot s.e 11) ^^^ rot s.e 25) + ((s.e &&& s.f) ^^^ (~~~s.e &&& s.g)) + k + w
def stepU (s : S8) : Wd := ((rot s.a 2 ^^^ rot s.a 13) ^^^ rot s.a 22) + (((s.a &&& s.b) ^^^ (s.a &&& s.c)) ^^^ (s.b &&& s.c))
def stepS (s : S8) (k w : Wd) : S8 := ⟨stepT s k w + stepU s, s.a, s.b, s.c, s.d + stepT s k w, s.e, s.f, s.g⟩
def byteW (b : List UInt8) (i : Nat) : Wd := BitVec.ofNat 32 (b.getD i 0).toNat
def be32 (b : List UInt8) (i : Nat) : Wd := ((byteW b (4 * i) <<< 24 ||| byteW b (4 * i + 1) <<< 16) ||| byteW b (4 * i + 2) <<< 8) ||| byteW b (4 * i + 3)
def nxW (l : List Wd) (i : Nat) : Wd := l.getD (i - 16) 0 + ((rot (l.getD (i - 15) 0) 7 ^^^ rot (l.getD (i - 15) 0) 18) ^^^ (l.getD (i - 15) 0) >>> 3) + l.getD (i - 7) 0 + ((rot (l.getD (i - 2) 0) 17 ^^^ rot (l.getD (i - 2) 0) 19) ^^^ (l.getD (i - 2) 0) >>> 10)
def sched (b : List UInt8) : Nat → List Wd
  | 0 => []
  | i + 1 => sched b i ++ [if i < 16 then be32 b i else nxW (sched b i) i]
theorem sched_len (b : List UInt8) (n : Nat) : (sched b n).length = n := by
  induction n with
  | zero => rfl
  | succ n ih => simp [sched, ih]
def schR (b : List UInt8) (n : Nat) : List Wd := sched b n ++ List.replicate (64 - n) 0
theorem schR_len (b : List UInt8) (n : Nat) (h : n ≤ 64) : (schR b n).length = 64 := by simp [schR, sched_len]; omega
theorem schR_get (b : List UInt8) (n i : Nat) (h : i < n) : (schR b n).getD i 0 = (sched b n).getD i 0 := by
  simp only [schR, List.getD]
  rw [List.getElem?_append_left (by rw [sched_len]; exact h)]
theorem schR_set (b : List UInt8) (n : Nat) (h : n < 64) (x : Wd) (hx : x = if n < 16 then be32 b n else nxW (sched b n) n) : (schR b n).set n x = schR b (n + 1) := by
  subst hx
  unfold schR
  rw [List.set_append_right _ _ (by rw [sched_len]; exact Nat.le_refl n), sched_len, Nat.sub_self, show 64 - n = (64 - (n + 1)) + 1 by omega, List.replicate_succ, List.set_cons_zero, sched]
  simp
def shaK : List Wd := [
    0x428a2f98, 0x71374491, 0xb5c0fbcf, 0xe9b5dba5, 0x3956c25b, 0x59f111f1, 0x923f82a4, 0xab1c5ed5,
    0xd807aa98, 0x12835b01, 0x243185be, 0x550c7dc3, 0x72be5d74, 0x80deb1fe, 0x9bdc06a7, 0xc19bf174,
    0xe49b69c1, 0xefbe4786, 0x0fc19dc6, 0x240ca1cc, 0x2de92c6f, 0x4a7484aa, 0x5cb0a9dc, 0x76f988da,
    0x983e5152, 0xa831c66d, 0xb00327c8, 0xbf597fc7, 0xc6e00bf3, 0xd5a79147, 0x06ca6351, 0x14292967,
    0x27b70a85, 0x2e1b2138, 0x4d2c6dfc, 0x53380d13, 0x650a7354, 0x766a0abb, 0x81c2c92e, 0x92722c85,
    0xa2bfe8a1, 0xa81a664b, 0xc24b8b70, 0xc76c51a3, 0xd192e819, 0xd6990624, 0xf40e3585, 0x106aa070,
    0x19a4c116, 0x1e376c08, 0x2748774c, 0x34b0bcb5, 0x391c0cb3, 0x4ed8aa4a, 0x5b9cca4f, 0x682e6ff3,
    0x748f82ee, 0x78a5636f, 0x84c87814, 0x8cc70208, 0x90befffa, 0xa4506ceb, 0xbef9a3f7, 0xc67178f2]
def sha0 : S8 := ⟨0x6a09e667, 0xbb67ae85, 0x3c6ef372, 0xa54ff53a, 0x510e527f, 0x9b05688c, 0x1f83d9ab, 0x5be0cd19⟩
def runS (s : S8) (W : List Wd) : Nat → S8
  | 0 => s
  | i + 1 => stepS (runS s W i) (shaK.getD i 0) (W.getD i 0)
def addS (s t : S8) : S8 := ⟨s.a + t.a, s.b + t.b, s.c + t.c, s.d + t.d, s.e + t.e, s.f + t.f, s.g + t.g, s.h + t.h⟩
def mixS (s : S8) (b : List UInt8) : S8 := addS s (runS s (sched b 64) 64)
def runB (b : List UInt8) : Nat → S8
  | 0 => sha0
  | n + 1 => mixS (runB b n) ((b.drop (64 * n)).take 64)
def len8 (n : Nat) : List UInt8 := (List.range 8).map fun k => UInt8.ofNat (n * 8 / 2 ^ (8 * (7 - k)))
def padS (s : List UInt8) : List UInt8 := s ++ (128 :: List.replicate ((119 - s.length % 64) % 64) 0 ++ len8 s.length)
def outB (s : S8) (i : Nat) : UInt8 := wB ((s.l.getD (i / 4) 0) >>> (24 - 8 * (i % 4)))
def outS (s : S8) : List UInt8 := (List.range 32).map (outB s)
def outN (s : S8) (i : Nat) : List UInt8 := (List.range i).map (outB s) ++ List.replicate (32 - i) 0
theorem outN_len (s : S8) (i : Nat) (h : i ≤ 32) : (outN s i).length = 32 := by simp [outN]; omega
theorem outN_set (s : S8) (i : Nat) (h : i < 32) (x : UInt8) (hx : x = outB s i) : (outN s i).set i x = outN s (i + 1) := by
  subst hx
  unfold outN
  have e : ((List.range i).map (outB s)).length = i := by simp
  rw [List.set_append_right _ _ (by rw [e]; exact Nat.le_refl i), e, Nat.sub_self, show 32 - i = (32 - (i + 1)) + 1 by omega, List.replicate_succ, List.set_cons_zero, List.range_succ]
  simp
theorem outN_all (s : S8) : outN s 32 = outS s := by simp [outN, outS]
def shaP (s : List UInt8) : List UInt8 := outS (runB (padS s) ((padS s).length / 64))
theorem shaP_len (s : List UInt8) : (shaP s).length = 32 := by simp [shaP, outS]
theorem padS_len (s : List UInt8) : (padS s).length = 64 * ((padS s).length / 64) ∧ 64 ≤ (padS s).length := by
  have h : (padS s).length = s.length + (1 + (119 - s.length % 64) % 64 + 8) := by simp [padS, len8]; omega
  omega
end Go.Proofs.YtmmmbmljompamaaGreatDoor

namespace Go.Proofs.YtmmmbmljompamaaGreatDoor
set_option linter.all false
open Go.RowKit
set_option maxRecDepth 100000
theorem p_JoinS (own : Option Nat) (z : List UInt8) (l : List (List UInt8)) (hn : l.length ≤ 140737488355328) (hl : (Lib.join l z).length ≤ 140737488355328) : CP Tryz.prog 71 [.sl own 1 (l.map fun p => [AV.str p]), .str z] (.str (Lib.join l z)) := by
  intro W U us hG hlen hu
  match us, hlen with
  | [v, w], _ =>
    have hw := (hu 1 w _ rfl rfl).str_inv
    subst hw
    have hv := hu 0 v _ rfl rfl
    generalize hels : (l.map fun p => [AV.str p]) = els at hv
    cases hv with
    | sl A cap _ _ b o _ f hcap hmax hA hs hc hvv =>
      by_cases h0 : l = []
      · subst h0
        simp at hels
        subst hels
        refine (Tryz.strings_Join_none A cap ⟨z.toArray⟩ W).mono ?_
        rintro e W' ⟨rfl, rfl⟩
        exact ⟨_, U, rfl, .str [], trivial, Ext.refl _ _⟩
      · have hll : els.length = l.length := by simp [← hels]
        have hlt : 0 < els.length := by rw [hll]; exact List.length_pos_iff.2 h0
        obtain rfl := hA hlt
        have hx : els.length = (l.map fun p => (⟨p.toArray⟩ : ByteArray)).length := by simp [hll]
        have hj : ((l.map fun p => (⟨p.toArray⟩ : ByteArray)).map (·.data.toList)) = l := by simp [List.map_map, Function.comp_def]
        have hbk : b < W.heap.size := World.block_lt_of_cell? W ⟨b, o + 0 * 1 + 0, none⟩ (hc 0 0 hlt (by omega)).1
        have := Tryz.strings_Join b o cap (l.map fun p => (⟨p.toArray⟩ : ByteArray)) ⟨z.toArray⟩ W (fun j x hx => by
          simp only [List.getElem?_map, Option.map_eq_some_iff] at hx
          obtain ⟨p, hp, rfl⟩ := hx
          have hjl : j < els.length := by rw [hll]; exact (List.getElem?_eq_some_iff.1 hp).1
          have h1 := (hc j 0 hjl (by omega)).1
          have h2 := hvv j [AV.str p] 0 (.str p) (by rw [← hels]; simp [hp]) rfl
          rw [show o + j * 1 + 0 = o + j by omega] at h1
          rw [h1]
          generalize f j 0 = y at h2
          cases h2
          rfl) hbk (by rw [← hx, hll]; exact hn) (by rw [← hx]; exact hcap) (by rw [hj]; exact hl)
        rw [hj, ← hx] at this
        refine this.mono ?_
        rintro e W' ⟨rfl, hB⟩
        exact ⟨_, U, rfl, .str _, trivial, ⟨hB, fun _ _ _ => Iff.rfl⟩⟩
theorem join_flat : ∀ l : List (List UInt8), Lib.join l [] = l.flatten
  | [] => rfl
  | [x] => by simp [Lib.join, List.intercalate]
  | x :: y :: l => by
    have := join_flat (y :: l)
    simp only [Lib.join, List.intercalate] at this ⊢
    simp [List.intersperse, this]
theorem rep_zero : ∀ n, Lib.repeatL [0] n = List.replicate n 0
  | 0 => rfl
  | n + 1 => by rw [Lib.repeatL, rep_zero n, List.replicate_succ]; rfl
theorem p_RepZ (n : Nat) (hn : n ≤ 1000000) : CP Tryz.prog 72 [.str [0], .int .i64 (n : Int)] (.str (List.replicate n 0)) :=
  CP_lib (vs := [.string ⟨#[0]⟩, .int .i64 (n : Int)]) (v := .string ⟨(List.replicate n (0 : UInt8)).toArray⟩) rfl (by simp) rfl fun W =>
    (Tryz.strings_Repeat ⟨#[0]⟩ n W (by omega) (by have : (⟨#[0]⟩ : ByteArray).size = 1 := rfl; rw [this]; omega)).mono fun e w' ⟨h1, h2⟩ => ⟨by rw [h1, ← rep_zero], h2⟩
theorem rl_all : ∀ a : Fin 32, 1 ≤ a.val → IntKind.wrap .u64 ((BitVec.ofInt 64 (IntKind.wrap .u64 (0 - (a.val : Int))) &&& BitVec.ofInt 64 31).toNat : Int) = ((32 - a.val : Nat) : Int) := by decide
theorem rl1 (a : Nat) (h : 1 ≤ a ∧ a ≤ 31) : IntKind.wrap .u64 ((BitVec.ofInt (IntKind.bits .u64) (IntKind.wrap .u64 (0 - (a : Int))) &&& BitVec.ofInt (IntKind.bits .u64) 31).toNat : Int) = ((32 - a : Nat) : Int) := rl_all ⟨a, by omega⟩ h.1
theorem rl2 (a : Nat) (h : 1 ≤ a ∧ a ≤ 31) : IntKind.wrap .u64 (32 - ((32 - a : Nat) : Int)) = (a : Int) := by
  show (32 - ((32 - a : Nat) : Int)) % 18446744073709551616 = a
  omega
theorem nn (n : Nat) : (0 ≤ (n : Int)) = True := by simp
theorem rot_eq (x : Wd) (a : Nat) : (x <<< (32 - a)) ||| (x >>> a) = rot x a := rfl
theorem sxShj {A B : Prop} (h : B) (e : A = B := by (simp (disch := omega) only [*, ↓Ed, Eu, ↓reduceIte, reduceCtorEq, Nat.reduceAdd, Nat.reduceEqDiff, Nat.reduceLT, Nat.reduceLeDiff, Int.reduceToNat, Int.reduceEq, Int.reduceLT, Int.reduceLE, w64, List.length_append, List.length_map, w_or, w_shl, w_shr, Int.toNat_natCast, nn, rot_eq]; first | done | rfl)) : A := e ▸ h
theorem p_Rotl (x : Wd) (a : Nat) (h : 1 ≤ a ∧ a ≤ 31) : CP Tryz.prog 107 [aW x, .int .i64 (0 - (a : Int))] (aW (rot x a)) := by
  refine ok_bits_RotateLeft32 _ _ (by simp) ?_
  simp only [c_bits_RotateLeft32, rl1 a h, rl2 a h, w_or, w_shl, w_shr, Int.toNat_natCast, nn, ↓Ed, Eu, ↓reduceIte, reduceCtorEq, Nat.reduceAdd, Nat.reduceEqDiff, Nat.reduceLT, Nat.reduceLeDiff, Int.reduceToNat, Int.reduceEq, Int.reduceLT, Int.reduceLE, w64, List.length_append, List.length_map, w_or, w_shl, w_shr, Int.toNat_natCast, nn, rot_eq]
  repeat' ((first | refine NewB_intro0 (fun b => ?_) | (refine NewB_intro (fun b hb => ?_); simp only [ln_cons2, ln_nil, and_true] at hb) | (with_reducible apply wA; focus exact OM_a) | ((first | refine gW_sp ?_ | refine condW_sp ?_ | refine pickW_sp ?_); (try refine Sp_n ?_); (first | refine wT ?_ | refine wF ?_ | refine wL (fun h h' => ?_) (fun h h' => ?_) | refine wE (fun h h' => ?_) (fun h h' => ?_) | refine Sp_split (fun h => ?_) (fun h => ?_)) <;> (try (exfalso; omega))) | refine TreeW_intro (by rfl) ?_ | refine TreeW_all ?_ | refine upQ_intro ?_ | refine Two_intro ?_ ?_ | exact wZ | fail) <;> (try refine sxShj ?_) <;> (try exact True.intro))
end Go.Proofs.YtmmmbmljompamaaGreatDoor

namespace Go.Proofs.YtmmmbmljompamaaGreatDoor
set_option linter.all false
open Go.RowKit
set_option maxRecDepth 100000
abbrev z64 : List AV := [.int .u32 0, .int .u32 0, .int .u32 0, .int .u32 0, .int .u32 0, .int .u32 0, .int .u32 0, .int .u32 0, .int .u32 0, .int .u32 0, .int .u32 0, .int .u32 0, .int .u32 0, .int .u32 0, .int .u32 0, .int .u32 0, .int .u32 0, .int .u32 0, .int .u32 0, .int .u32 0, .int .u32 0, .int .u32 0, .int .u32 0, .int .u32 0, .int .u32 0, .int .u32 0, .int .u32 0, .int .u32 0, .int .u32 0, .int .u32 0, .int .u32 0, .int .u32 0, .int .u32 0, .int .u32 0, .int .u32 0, .int .u32 0, .int .u32 0, .int .u32 0, .int .u32 0, .int .u32 0, .int .u32 0, .int .u32 0, .int .u32 0, .int .u32 0, .int .u32 0, .int .u32 0, .int .u32 0, .int .u32 0, .int .u32 0, .int .u32 0, .int .u32 0, .int .u32 0, .int .u32 0, .int .u32 0, .int .u32 0, .int .u32 0, .int .u32 0, .int .u32 0, .int .u32 0, .int .u32 0, .int .u32 0, .int .u32 0, .int .u32 0, .int .u32 0]
theorem z64_eq (s : List UInt8) : (schR s 0).map aW = z64 := rfl
theorem steps_eq : ([.int .u32 1116352408, .int .u32 1899447441, .int .u32 3049323471, .int .u32 3921009573, .int .u32 961987163, .int .u32 1508970993, .int .u32 2453635748, .int .u32 2870763221, .int .u32 3624381080, .int .u32 310598401, .int .u32 607225278, .int .u32 1426881987, .int .u32 1925078388, .int .u32 2162078206, .int .u32 2614888103, .int .u32 3248222580, .int .u32 3835390401, .int .u32 4022224774, .int .u32 264347078, .int .u32 604807628, .int .u32 770255983, .int .u32 1249150122, .int .u32 1555081692, .int .u32 1996064986, .int .u32 2554220882, .int .u32 2821834349, .int .u32 2952996808, .int .u32 3210313671, .int .u32 3336571891, .int .u32 3584528711, .int .u32 113926993, .int .u32 338241895, .int .u32 666307205, .int .u32 773529912, .int .u32 1294757372, .int .u32 1396182291, .int .u32 1695183700, .int .u32 1986661051, .int .u32 2177026350, .int .u32 2456956037, .int .u32 2730485921, .int .u32 2820302411, .int .u32 3259730800, .int .u32 3345764771, .int .u32 3516065817, .int .u32 3600352804, .int .u32 4094571909, .int .u32 275423344, .int .u32 430227734, .int .u32 506948616, .int .u32 659060556, .int .u32 883997877, .int .u32 958139571, .int .u32 1322822218, .int .u32 1537002063, .int .u32 1747873779, .int .u32 1955562222, .int .u32 2024104815, .int .u32 2227730452, .int .u32 2361852424, .int .u32 2428436474, .int .u32 2756734187, .int .u32 3204031479, .int .u32 3329325298] : List AV) = shaK.map aW := rfl
end Go.Proofs.YtmmmbmljompamaaGreatDoor

namespace Go.Proofs.YtmmmbmljompamaaGreatDoor
set_option linter.all false
open Go.RowKit
set_option maxRecDepth 100000
theorem toN4 (i : Nat) : (4 * (i : Int)).toNat = 4 * i := by omega
theorem toN41 (i : Nat) : (4 * (i : Int) + 1).toNat = 4 * i + 1 := by omega
theorem toN42 (i : Nat) : (4 * (i : Int) + 2).toNat = 4 * i + 2 := by omega
theorem toN43 (i : Nat) : (4 * (i : Int) + 3).toNat = 4 * i + 3 := by omega
theorem four0 (i k : Nat) : ((i : Int) - (k : Int)).toNat = i - k := by omega
theorem four1 (i : Nat) : ((i : Int) - 16).toNat = i - 16 := by omega
theorem four2 (i : Nat) : ((i : Int) - 15).toNat = i - 15 := by omega
theorem four3 (i : Nat) : ((i : Int) - 7).toNat = i - 7 := by omega
theorem subn (i : Nat) : ((i : Int) - 2).toNat = i - 2 := by omega
theorem arr_ld (l : List Wd) (i : Nat) (hi : i < l.length) (K : AV → Prop) : RK (ldR none ((l.map aW).drop i)) K = K (aW (l.getD i 0)) := by
  rw [List.drop_eq_getElem_cons (by simpa using hi)]
  apply propext
  simp [RK, ldR, AV.alias, List.getD, hi]
theorem arr_sto (l : List Wd) (i : Nat) (x : Wd) (hi : i < l.length) : splice (l.map aW) i [aW x] = (l.set i x).map aW := by
  induction l generalizing i with
  | nil => simp at hi
  | cons y l ih => cases i with
    | zero => simp [splice]
    | succ i => simp only [List.map_cons, splice, List.set_cons_succ]; rw [ih i (by simpa using hi)]
theorem sch_ld (s : List UInt8) (i n : Nat) (h : n < i ∧ i ≤ 64) (K : AV → Prop) : RK (ldR none (((schR s i).map aW).drop n)) K = K (aW ((sched s i).getD n 0)) := by
  rw [arr_ld _ _ (by rw [schR_len s i h.2]; omega), schR_get s i n h.1]
theorem schR_get' (s : List UInt8) (i : Nat) (h : i ≤ 64) : ((schR s i).map aW).length = 64 := by rw [List.length_map, schR_len s i h]
theorem splice_whole : ∀ (z X : List AV), z.length = X.length → splice z 0 X = X
  | [], [], _ => rfl
  | [], _ :: _, h => by simp at h
  | _ :: _, [], h => by simp at h
  | _ :: z, x :: X, h => by
    show x :: splice z 0 X = x :: X
    rw [splice_whole z X (by simpa using h)]
theorem store_w (l : List Wd) : (l.map aW).map AV.store = l.map aW := by
  rw [List.map_map]; rfl
theorem sxSha {A B : Prop} (h : B) (e : A = B := by (simp (disch := omega) only [*, ↓Ed, Eu, ↓reduceIte, reduceCtorEq, Nat.reduceAdd, Nat.reduceEqDiff, Nat.reduceLT, Nat.reduceLeDiff, Int.reduceToNat, Int.reduceEq, Int.reduceLT, Int.reduceLE, w64, List.length_append, List.length_map, w_or, w_and, w_xor, w_add, w_not, w_shl, w_shr, w_u8, Int.toNat_natCast, nn, four0, four1, four2, four3, subn, toN4, toN41, toN42, toN43, Nat.mul_one, Nat.zero_add, Int.reduceAdd, sch_ld, schR_get']; first | done | rfl)) : A := e ▸ h
theorem p_turn (w : Wd) (a b c : Nat) (ha : 1 ≤ a ∧ a ≤ 31) (hb : 1 ≤ b ∧ b ≤ 31) (hc : 1 ≤ c ∧ c ≤ 31) : CP Tryz.prog 96 [aW w, .int .i64 (a : Int), .int .i64 (b : Int), .int .i64 (c : Int)] (aW ((rot w a ^^^ rot w b) ^^^ rot w c)) := by
  refine ok_sha_turn _ _ (by simp) ?_
  simp (disch := omega) only [c_sha_turn, ↓Ed, Eu, ↓reduceIte, reduceCtorEq, Nat.reduceAdd, Nat.reduceEqDiff, Nat.reduceLT, Nat.reduceLeDiff, Int.reduceToNat, Int.reduceEq, Int.reduceLT, Int.reduceLE, w64, List.length_append, List.length_map, w_or, w_and, w_xor, w_add, w_not, w_shl, w_shr, w_u8, Int.toNat_natCast, nn, four0, four1, four2, four3, subn, toN4, toN41, toN42, toN43, Nat.mul_one, Nat.zero_add, Int.reduceAdd, sch_ld, schR_get']
  repeat' ((first | refine CallO_pure (p_Rotl w a ha) ?_ | refine CallO_pure (p_Rotl w b hb) ?_ | refine CallO_pure (p_Rotl w c hc) ?_ | refine NewB_intro0 (fun b => ?_) | (refine NewB_intro (fun b hb => ?_); simp only [ln_cons2, ln_nil, and_true] at hb) | (with_reducible apply wA; focus exact OM_a) | ((first | refine gW_sp ?_ | refine condW_sp ?_ | refine pickW_sp ?_); (try refine Sp_n ?_); (first | refine wT ?_ | refine wF ?_ | refine wL (fun h h' => ?_) (fun h h' => ?_) | refine wE (fun h h' => ?_) (fun h h' => ?_) | refine Sp_split (fun h => ?_) (fun h => ?_)) <;> (try (exfalso; omega))) | refine TreeW_intro (by rfl) ?_ | refine TreeW_all ?_ | refine upQ_intro ?_ | refine Two_intro ?_ ?_ | exact wZ | fail) <;> (try refine sxSha ?_) <;> (try exact True.intro))
theorem p_slide (w : Wd) (a b c : Nat) (ha : 1 ≤ a ∧ a ≤ 31) (hb : 1 ≤ b ∧ b ≤ 31) : CP Tryz.prog 106 [aW w, .int .i64 (a : Int), .int .i64 (b : Int), .int .i64 (c : Int)] (aW ((rot w a ^^^ rot w b) ^^^ w >>> c)) := by
  refine ok_sha_slide _ _ (by simp) ?_
  simp (disch := omega) only [c_sha_slide, ↓Ed, Eu, ↓reduceIte, reduceCtorEq, Nat.reduceAdd, Nat.reduceEqDiff, Nat.reduceLT, Nat.reduceLeDiff, Int.reduceToNat, Int.reduceEq, Int.reduceLT, Int.reduceLE, w64, List.length_append, List.length_map, w_or, w_and, w_xor, w_add, w_not, w_shl, w_shr, w_u8, Int.toNat_natCast, nn, four0, four1, four2, four3, subn, toN4, toN41, toN42, toN43, Nat.mul_one, Nat.zero_add, Int.reduceAdd, sch_ld, schR_get']
  repeat' ((first | refine CallW_intro (p_Rotl w a ha) ?_ | refine CallW_intro (p_Rotl w b hb) ?_ | refine NewB_intro0 (fun b => ?_) | (refine NewB_intro (fun b hb => ?_); simp only [ln_cons2, ln_nil, and_true] at hb) | (with_reducible apply wA; focus exact OM_a) | ((first | refine gW_sp ?_ | refine condW_sp ?_ | refine pickW_sp ?_); (try refine Sp_n ?_); (first | refine wT ?_ | refine wF ?_ | refine wL (fun h h' => ?_) (fun h h' => ?_) | refine wE (fun h h' => ?_) (fun h h' => ?_) | refine Sp_split (fun h => ?_) (fun h => ?_)) <;> (try (exfalso; omega))) | refine TreeW_intro (by rfl) ?_ | refine TreeW_all ?_ | refine upQ_intro ?_ | refine Two_intro ?_ ?_ | exact wZ | fail) <;> (try refine sxSha ?_) <;> (try exact True.intro))
theorem p_slide1 (w : Wd) : CP Tryz.prog 106 [aW w, .int .i64 7, .int .i64 18, .int .i64 3] (aW ((rot w 7 ^^^ rot w 18) ^^^ w >>> 3)) := p_slide w 7 18 3 (by omega) (by omega)
theorem p_slide2 (w : Wd) : CP Tryz.prog 106 [aW w, .int .i64 17, .int .i64 19, .int .i64 10] (aW ((rot w 17 ^^^ rot w 19) ^^^ w >>> 10)) := p_slide w 17 19 10 (by omega) (by omega)
theorem p_spread (s : List UInt8) (hs : s.length = 64) : CP Tryz.prog 95 [.str s] (.agg ((sched s 64).map aW)) := by
  refine ok_sha_spread _ _ (by simp) ?_
  simp (disch := omega) only [c_sha_spread, ↓Ed, Eu, ↓reduceIte, reduceCtorEq, Nat.reduceAdd, Nat.reduceEqDiff, Nat.reduceLT, Nat.reduceLeDiff, Int.reduceToNat, Int.reduceEq, Int.reduceLT, Int.reduceLE, w64, List.length_append, List.length_map, w_or, w_and, w_xor, w_add, w_not, w_shl, w_shr, w_u8, Int.toNat_natCast, nn, four0, four1, four2, four3, subn, toN4, toN41, toN42, toN43, Nat.mul_one, Nat.zero_add, Int.reduceAdd, sch_ld, schR_get']
  repeat' ((first | refine NewB_intro0 (fun b => ?_) | (refine NewB_intro (fun b hb => ?_); simp only [ln_cons2, ln_nil, and_true] at hb) | (with_reducible apply wA; focus exact OM_a) | ((first | refine gW_sp ?_ | refine condW_sp ?_ | refine pickW_sp ?_); (try refine Sp_n ?_); (first | refine wT ?_ | refine wF ?_ | refine wL (fun h h' => ?_) (fun h h' => ?_) | refine wE (fun h h' => ?_) (fun h h' => ?_) | refine Sp_split (fun h => ?_) (fun h => ?_)) <;> (try (exfalso; omega))) | refine TreeW_intro (by rfl) ?_ | refine TreeW_all ?_ | refine upQ_intro ?_ | refine Two_intro ?_ ?_ | exact wZ | fail) <;> (try refine sxSha ?_) <;> (try exact True.intro))
  rename_i r
  obtain ⟨z, hz, hzl⟩ : ∃ z : List AV, z64 = z ∧ z.length = 64 := ⟨_, rfl, rfl⟩
  refine wpx_loop (fun i : Nat => ⟨lk [(0, .str s), (2, .ptr r 0), (3, .ptr b 0), (5, .int .i64 (i : Int))], lk [(r, z), (b, (schR s i).map aW)]⟩) (fun i => i ≤ 64) (fun i => 64 - i) 0 (by omega) (Le_lit (by rw [← hz, z64_eq s]; simp [LeL, lk, hb])) ?_
  clear hz
  intro i hi
  by_cases hlt : i < 64
  · have f1 : Fact (decide ((i : Int) < 64) = true) := by simp only [Fact, Bool.not_eq_true', Bool.not_eq_false', decide_eq_true_eq, decide_eq_false_iff_not]; omega
    have l64 : (schR s i).length = 64 := schR_len s i hi
    by_cases h16 : i < 16
    · have f2 : Fact (decide ((i : Int) < 16) = true) := by simp only [Fact, Bool.not_eq_true', Bool.not_eq_false', decide_eq_true_eq, decide_eq_false_iff_not]; omega
      have hS := arr_sto (schR s i) i (be32 s i) (by omega)
      rw [schR_set s i hlt (be32 s i) (by rw [if_pos h16])] at hS
      have hX := schR_get' s i hi
      generalize (schR s i).map aW = X at *
      clear l64
      simp only [be32, byteW] at hS
      simp (disch := omega) only [hb, hS, ↓Ed, Eu, ↓reduceIte, reduceCtorEq, Nat.reduceAdd, Nat.reduceEqDiff, Nat.reduceLT, Nat.reduceLeDiff, Int.reduceToNat, Int.reduceEq, Int.reduceLT, Int.reduceLE, w64, List.length_append, List.length_map, w_or, w_and, w_xor, w_add, w_not, w_shl, w_shr, w_u8, Int.toNat_natCast, nn, four0, four1, four2, four3, subn, toN4, toN41, toN42, toN43, Nat.mul_one, Nat.zero_add, Int.reduceAdd, sch_ld, schR_get']
      repeat' ((first | refine NewB_intro0 (fun b => ?_) | (refine NewB_intro (fun b hb => ?_); simp only [ln_cons2, ln_nil, and_true] at hb) | (with_reducible apply wA; focus exact OM_a) | ((first | refine gW_sp ?_ | refine condW_sp ?_ | refine pickW_sp ?_); (try refine Sp_n ?_); (first | refine wT ?_ | refine wF ?_ | refine wL (fun h h' => ?_) (fun h h' => ?_) | refine wE (fun h h' => ?_) (fun h h' => ?_) | refine Sp_split (fun h => ?_) (fun h => ?_)) <;> (try (exfalso; omega))) | refine TreeW_intro (by rfl) ?_ | refine TreeW_all ?_ | refine upQ_intro ?_ | refine Two_intro ?_ ?_ | exact wZ | fail) <;> (try refine sxSha ?_) <;> (try exact True.intro))
      all_goals exact Round_lit (i + 1) ⟨Le_lit (by simp [LeL, lk, hb]), by omega, by omega⟩
    · have f2 : Fact (decide ((i : Int) < 16) = false) := by simp only [Fact, Bool.not_eq_true', Bool.not_eq_false', decide_eq_true_eq, decide_eq_false_iff_not]; omega
      have hS := arr_sto (schR s i) i (nxW (sched s i) i) (by omega)
      rw [schR_set s i hlt (nxW (sched s i) i) (by rw [if_neg h16])] at hS
      have hX := schR_get' s i hi
      clear l64
      simp only [nxW] at hS
      simp (disch := omega) only [hb, hS, hX, ↓Ed, Eu, ↓reduceIte, reduceCtorEq, Nat.reduceAdd, Nat.reduceEqDiff, Nat.reduceLT, Nat.reduceLeDiff, Int.reduceToNat, Int.reduceEq, Int.reduceLT, Int.reduceLE, w64, List.length_append, List.length_map, w_or, w_and, w_xor, w_add, w_not, w_shl, w_shr, w_u8, Int.toNat_natCast, nn, four0, four1, four2, four3, subn, toN4, toN41, toN42, toN43, Nat.mul_one, Nat.zero_add, Int.reduceAdd, sch_ld, schR_get']
      repeat' ((first | refine CallW_intro (p_slide1 _) ?_ | refine CallW_intro (p_slide2 _) ?_ | refine NewB_intro0 (fun b => ?_) | (refine NewB_intro (fun b hb => ?_); simp only [ln_cons2, ln_nil, and_true] at hb) | (with_reducible apply wA; focus exact OM_a) | ((first | refine gW_sp ?_ | refine condW_sp ?_ | refine pickW_sp ?_); (try refine Sp_n ?_); (first | refine wT ?_ | refine wF ?_ | refine wL (fun h h' => ?_) (fun h h' => ?_) | refine wE (fun h h' => ?_) (fun h h' => ?_) | refine Sp_split (fun h => ?_) (fun h => ?_)) <;> (try (exfalso; omega))) | refine TreeW_intro (by rfl) ?_ | refine TreeW_all ?_ | refine upQ_intro ?_ | refine Two_intro ?_ ?_ | exact wZ | fail) <;> (try refine sxSha ?_) <;> (try exact True.intro))
      all_goals exact Round_lit (i + 1) ⟨Le_lit (by simp [LeL, lk, hb]), by omega, by omega⟩
  · have f1 : Fact (decide ((i : Int) < 64) = false) := by simp only [Fact, Bool.not_eq_true', Bool.not_eq_false', decide_eq_true_eq, decide_eq_false_iff_not]; omega
    obtain rfl : i = 64 := by omega
    have hX : (schR s 64) = sched s 64 := by simp [schR]
    have hL : ((sched s 64).map aW).length = 64 := by rw [List.length_map, sched_len]
    rw [hX]
    have hT : List.take 64 ((sched s 64).map aW) = (sched s 64).map aW := List.take_of_length_le (by omega)
    have hP := splice_whole z ((sched s 64).map aW) (by omega)
    have hS := store_w (sched s 64)
    clear hX
    generalize (sched s 64).map aW = X at *
    simp (disch := omega) only [hb, hL, hT, hP, hS, hzl, ↓Ed, Eu, ↓reduceIte, reduceCtorEq, Nat.reduceAdd, Nat.reduceEqDiff, Nat.reduceLT, Nat.reduceLeDiff, Int.reduceToNat, Int.reduceEq, Int.reduceLT, Int.reduceLE, w64, List.length_append, List.length_map, w_or, w_and, w_xor, w_add, w_not, w_shl, w_shr, w_u8, Int.toNat_natCast, nn, four0, four1, four2, four3, subn, toN4, toN41, toN42, toN43, Nat.mul_one, Nat.zero_add, Int.reduceAdd, sch_ld, schR_get']
    repeat' ((first | refine NewB_intro0 (fun b => ?_) | (refine NewB_intro (fun b hb => ?_); simp only [ln_cons2, ln_nil, and_true] at hb) | (with_reducible apply wA; focus exact OM_a) | ((first | refine gW_sp ?_ | refine condW_sp ?_ | refine pickW_sp ?_); (try refine Sp_n ?_); (first | refine wT ?_ | refine wF ?_ | refine wL (fun h h' => ?_) (fun h h' => ?_) | refine wE (fun h h' => ?_) (fun h h' => ?_) | refine Sp_split (fun h => ?_) (fun h => ?_)) <;> (try (exfalso; omega))) | refine TreeW_intro (by rfl) ?_ | refine TreeW_all ?_ | refine upQ_intro ?_ | refine Two_intro ?_ ?_ | exact wZ | fail) <;> (try refine sxSha ?_) <;> (try exact True.intro))
end Go.Proofs.YtmmmbmljompamaaGreatDoor

namespace Go.Proofs.YtmmmbmljompamaaGreatDoor
set_option linter.all false
open Go.RowKit
set_option maxRecDepth 100000
theorem sc_ld (s : List UInt8) (n : Nat) (h : n < 64) (K : AV → Prop) : RK (ldR none (((sched s 64).map aW).drop n)) K = K (aW ((sched s 64).getD n 0)) := arr_ld _ _ (by rw [sched_len]; exact h) K
theorem k_ld (n : Nat) (h : n < 64) (K : AV → Prop) : RK (ldR none ((shaK.map aW).drop n)) K = K (aW (shaK.getD n 0)) := arr_ld _ _ h K
theorem p_turn1 (w : Wd) : CP Tryz.prog 96 [aW w, .int .i64 6, .int .i64 11, .int .i64 25] (aW ((rot w 6 ^^^ rot w 11) ^^^ rot w 25)) := p_turn w 6 11 25 (by omega) (by omega) (by omega)
theorem p_turn2 (w : Wd) : CP Tryz.prog 96 [aW w, .int .i64 2, .int .i64 13, .int .i64 22] (aW ((rot w 2 ^^^ rot w 13) ^^^ rot w 22)) := p_turn w 2 13 22 (by omega) (by omega) (by omega)
def addC (h s : S8) (i : Nat) : List AV := [aW (if 0 < i then h.a + s.a else h.a), aW (if 1 < i then h.b + s.b else h.b), aW (if 2 < i then h.c + s.c else h.c), aW (if 3 < i then h.d + s.d else h.d),
  aW (if 4 < i then h.e + s.e else h.e), aW (if 5 < i then h.f + s.f else h.f), aW (if 6 < i then h.g + s.g else h.g), aW (if 7 < i then h.h + s.h else h.h)]
abbrev z8 : List AV := [.int .u32 0, .int .u32 0, .int .u32 0, .int .u32 0, .int .u32 0, .int .u32 0, .int .u32 0, .int .u32 0]
theorem sxShb {A B : Prop} (h : B) (e : A = B := by (simp (disch := omega) only [*, ↓Ed, Eu, ↓reduceIte, reduceCtorEq, Nat.reduceAdd, Nat.reduceEqDiff, Nat.reduceLT, Nat.reduceLeDiff, Int.reduceToNat, Int.reduceEq, Int.reduceLT, Int.reduceLE, w64, List.length_append, List.length_map, w_or, w_and, w_xor, w_add, w_not, w_shl, w_shr, w_u8, Int.toNat_natCast, nn, Nat.mul_one, Nat.zero_add, Int.reduceAdd, sc_ld, k_ld, sched_len, S8.c8, addC]; first | done | rfl)) : A := e ▸ h
set_option maxHeartbeats 2000000 in
theorem p_mix (h : S8) (c : List UInt8) (hc : c.length = 64) : CP Tryz.prog 75 [.agg h.c8, .str c] (.agg (mixS h c).c8) := by
  refine ok_sha_mix _ _ (by simp) ?_
  have hS := p_spread c hc
  simp (disch := omega) only [c_sha_mix, steps_eq, ↓Ed, Eu, ↓reduceIte, reduceCtorEq, Nat.reduceAdd, Nat.reduceEqDiff, Nat.reduceLT, Nat.reduceLeDiff, Int.reduceToNat, Int.reduceEq, Int.reduceLT, Int.reduceLE, w64, List.length_append, List.length_map, w_or, w_and, w_xor, w_add, w_not, w_shl, w_shr, w_u8, Int.toNat_natCast, nn, Nat.mul_one, Nat.zero_add, Int.reduceAdd, sc_ld, k_ld, sched_len, S8.c8, addC]
  repeat' ((first | refine CallO_pure (hS) ?_ | refine NewB_intro0 (fun b => ?_) | (refine NewB_intro (fun b hb => ?_); simp only [ln_cons2, ln_nil, and_true] at hb) | (with_reducible apply wA; focus exact OM_a) | ((first | refine gW_sp ?_ | refine condW_sp ?_ | refine pickW_sp ?_); (try refine Sp_n ?_); (first | refine wT ?_ | refine wF ?_ | refine wL (fun h h' => ?_) (fun h h' => ?_) | refine wE (fun h h' => ?_) (fun h h' => ?_) | refine Sp_split (fun h => ?_) (fun h => ?_)) <;> (try (exfalso; omega))) | refine TreeW_intro (by rfl) ?_ | refine TreeW_all ?_ | refine upQ_intro ?_ | refine Two_intro ?_ ?_ | exact wZ | fail) <;> (try refine sxShb ?_) <;> (try exact True.intro))
  rename_i bh br hbr
  clear hS
  have hL : ((sched c 64).map aW).length = 64 := by rw [List.length_map, sched_len]
  refine wpx_loop (fun i : Nat => ⟨lk [(2, .ptr bh 0), (4, .ptr br 0), (5, .ptr b 0), (13, .agg ((sched c 64).map aW)), (14, .int .i64 (i : Int))], lk [(bh, h.c8), (br, z8), (b, (runS h (sched c 64) i).c8)]⟩) (fun i => i ≤ 64) (fun i => 64 - i) 0 (by omega) (Le_lit (by simp [LeL, lk, hb, hbr, runS])) ?_
  intro i hi
  by_cases hlt : i < 64
  · have f1 : Fact (decide ((i : Int) < 64) = true) := by simp only [Fact, Bool.not_eq_true', Bool.not_eq_false', decide_eq_true_eq, decide_eq_false_iff_not]; omega
    have hR : runS h (sched c 64) (i + 1) = stepS (runS h (sched c 64) i) (shaK.getD i 0) ((sched c 64).getD i 0) := rfl
    generalize runS h (sched c 64) i = S at *
    simp (disch := omega) only [hb, hbr, hL, steps_eq, ↓Ed, Eu, ↓reduceIte, reduceCtorEq, Nat.reduceAdd, Nat.reduceEqDiff, Nat.reduceLT, Nat.reduceLeDiff, Int.reduceToNat, Int.reduceEq, Int.reduceLT, Int.reduceLE, w64, List.length_append, List.length_map, w_or, w_and, w_xor, w_add, w_not, w_shl, w_shr, w_u8, Int.toNat_natCast, nn, Nat.mul_one, Nat.zero_add, Int.reduceAdd, sc_ld, k_ld, sched_len, S8.c8, addC]
    repeat' ((first | refine CallW_intro (p_turn1 _) ?_ | refine CallW_intro (p_turn2 _) ?_ | refine NewB_intro0 (fun b => ?_) | (refine NewB_intro (fun b hb => ?_); simp only [ln_cons2, ln_nil, and_true] at hb) | (with_reducible apply wA; focus exact OM_a) | ((first | refine gW_sp ?_ | refine condW_sp ?_ | refine pickW_sp ?_); (try refine Sp_n ?_); (first | refine wT ?_ | refine wF ?_ | refine wL (fun h h' => ?_) (fun h h' => ?_) | refine wE (fun h h' => ?_) (fun h h' => ?_) | refine Sp_split (fun h => ?_) (fun h => ?_)) <;> (try (exfalso; omega))) | refine TreeW_intro (by rfl) ?_ | refine TreeW_all ?_ | refine upQ_intro ?_ | refine Two_intro ?_ ?_ | exact wZ | fail) <;> (try refine sxShb ?_) <;> (try exact True.intro))
    all_goals exact Round_lit (i + 1) ⟨Le_lit (by simp [-List.getD_eq_getElem?_getD, LeL, lk, hb, hbr, hR, stepS, stepT, stepU]), by omega, by omega⟩
  have f1 : Fact (decide ((i : Int) < 64) = false) := by simp only [Fact, Bool.not_eq_true', Bool.not_eq_false', decide_eq_true_eq, decide_eq_false_iff_not]; omega
  obtain rfl : i = 64 := by omega
  have hM : mixS h c = addS h (runS h (sched c 64) 64) := rfl
  rw [hM]
  generalize runS h (sched c 64) 64 = S at *
  clear hL hM hlt hi
  simp (disch := omega) only [hb, hbr, ↓Ed, Eu, ↓reduceIte, reduceCtorEq, Nat.reduceAdd, Nat.reduceEqDiff, Nat.reduceLT, Nat.reduceLeDiff, Int.reduceToNat, Int.reduceEq, Int.reduceLT, Int.reduceLE, w64, List.length_append, List.length_map, w_or, w_and, w_xor, w_add, w_not, w_shl, w_shr, w_u8, Int.toNat_natCast, nn, Nat.mul_one, Nat.zero_add, Int.reduceAdd, sc_ld, k_ld, sched_len, S8.c8, addC]
  repeat' ((first | refine NewB_intro0 (fun b => ?_) | (refine NewB_intro (fun b hb => ?_); simp only [ln_cons2, ln_nil, and_true] at hb) | (with_reducible apply wA; focus exact OM_a) | ((first | refine gW_sp ?_ | refine condW_sp ?_ | refine pickW_sp ?_); (try refine Sp_n ?_); (first | refine wT ?_ | refine wF ?_ | refine wL (fun h h' => ?_) (fun h h' => ?_) | refine wE (fun h h' => ?_) (fun h h' => ?_) | refine Sp_split (fun h => ?_) (fun h => ?_)) <;> (try (exfalso; omega))) | refine TreeW_intro (by rfl) ?_ | refine TreeW_all ?_ | refine upQ_intro ?_ | refine Two_intro ?_ ?_ | exact wZ | fail) <;> (try refine sxShb ?_) <;> (try exact True.intro))
  clear f1
  refine wpx_loop (fun i : Nat => ⟨lk [(2, .ptr bh 0), (4, .ptr br 0), (5, .ptr b 0), (85, .int .i64 (i : Int))], lk [(bh, addC h S i), (br, z8), (b, S.c8)]⟩) (fun i => i ≤ 8) (fun i => 8 - i) 0 (by omega) (Le_lit (by simp [LeL, lk, hb, hbr, addC])) ?_
  intro i hi
  by_cases hlt : i < 8
  · have hc8 : i = 0 ∨ i = 1 ∨ i = 2 ∨ i = 3 ∨ i = 4 ∨ i = 5 ∨ i = 6 ∨ i = 7 := by omega
    rcases hc8 with rfl | rfl | rfl | rfl | rfl | rfl | rfl | rfl
    all_goals simp (disch := omega) only [hb, hbr, ↓Ed, Eu, ↓reduceIte, reduceCtorEq, Nat.reduceAdd, Nat.reduceEqDiff, Nat.reduceLT, Nat.reduceLeDiff, Int.reduceToNat, Int.reduceEq, Int.reduceLT, Int.reduceLE, w64, List.length_append, List.length_map, w_or, w_and, w_xor, w_add, w_not, w_shl, w_shr, w_u8, Int.toNat_natCast, nn, Nat.mul_one, Nat.zero_add, Int.reduceAdd, sc_ld, k_ld, sched_len, S8.c8, addC]
    all_goals repeat' ((first | refine NewB_intro0 (fun b => ?_) | (refine NewB_intro (fun b hb => ?_); simp only [ln_cons2, ln_nil, and_true] at hb) | (with_reducible apply wA; focus exact OM_a) | ((first | refine gW_sp ?_ | refine condW_sp ?_ | refine pickW_sp ?_); (try refine Sp_n ?_); (first | refine wT ?_ | refine wF ?_ | refine wL (fun h h' => ?_) (fun h h' => ?_) | refine wE (fun h h' => ?_) (fun h h' => ?_) | refine Sp_split (fun h => ?_) (fun h => ?_)) <;> (try (exfalso; omega))) | refine TreeW_intro (by rfl) ?_ | refine TreeW_all ?_ | refine upQ_intro ?_ | refine Two_intro ?_ ?_ | exact wZ | fail) <;> (try refine sxShb ?_) <;> (try exact True.intro))
    all_goals first | exact Round_lit 1 ⟨Le_lit (by simp [LeL, lk, hb, hbr, addC]), by omega, by omega⟩ | exact Round_lit 2 ⟨Le_lit (by simp [LeL, lk, hb, hbr, addC]), by omega, by omega⟩ | exact Round_lit 3 ⟨Le_lit (by simp [LeL, lk, hb, hbr, addC]), by omega, by omega⟩ | exact Round_lit 4 ⟨Le_lit (by simp [LeL, lk, hb, hbr, addC]), by omega, by omega⟩ | exact Round_lit 5 ⟨Le_lit (by simp [LeL, lk, hb, hbr, addC]), by omega, by omega⟩ | exact Round_lit 6 ⟨Le_lit (by simp [LeL, lk, hb, hbr, addC]), by omega, by omega⟩ | exact Round_lit 7 ⟨Le_lit (by simp [LeL, lk, hb, hbr, addC]), by omega, by omega⟩ | exact Round_lit 8 ⟨Le_lit (by simp [LeL, lk, hb, hbr, addC]), by omega, by omega⟩
  have f1 : Fact (decide ((i : Int) < 8) = false) := by simp only [Fact, Bool.not_eq_true', Bool.not_eq_false', decide_eq_true_eq, decide_eq_false_iff_not]; omega
  obtain rfl : i = 8 := by omega
  have hA : addC h S 8 = (addS h S).c8 := rfl
  rw [hA]
  generalize addS h S = R
  clear hA hlt hi
  simp (disch := omega) only [hb, hbr, ↓Ed, Eu, ↓reduceIte, reduceCtorEq, Nat.reduceAdd, Nat.reduceEqDiff, Nat.reduceLT, Nat.reduceLeDiff, Int.reduceToNat, Int.reduceEq, Int.reduceLT, Int.reduceLE, w64, List.length_append, List.length_map, w_or, w_and, w_xor, w_add, w_not, w_shl, w_shr, w_u8, Int.toNat_natCast, nn, Nat.mul_one, Nat.zero_add, Int.reduceAdd, sc_ld, k_ld, sched_len, S8.c8, addC]
  repeat' ((first | refine NewB_intro0 (fun b => ?_) | (refine NewB_intro (fun b hb => ?_); simp only [ln_cons2, ln_nil, and_true] at hb) | (with_reducible apply wA; focus exact OM_a) | ((first | refine gW_sp ?_ | refine condW_sp ?_ | refine pickW_sp ?_); (try refine Sp_n ?_); (first | refine wT ?_ | refine wF ?_ | refine wL (fun h h' => ?_) (fun h h' => ?_) | refine wE (fun h h' => ?_) (fun h h' => ?_) | refine Sp_split (fun h => ?_) (fun h => ?_)) <;> (try (exfalso; omega))) | refine TreeW_intro (by rfl) ?_ | refine TreeW_all ?_ | refine upQ_intro ?_ | refine Two_intro ?_ ?_ | exact wZ | fail) <;> (try refine sxShb ?_) <;> (try exact True.intro))
end Go.Proofs.YtmmmbmljompamaaGreatDoor

namespace Go.Proofs.YtmmmbmljompamaaGreatDoor
set_option linter.all false
open Go.RowKit
set_option maxRecDepth 100000
theorem k0 : ((0 : Nat) : Int) = 0 := rfl
theorem k1 : ((1 : Nat) : Int) = 1 := rfl
theorem k2 : ((2 : Nat) : Int) = 2 := rfl
theorem k3 : ((3 : Nat) : Int) = 3 := rfl
theorem k4 : ((4 : Nat) : Int) = 4 := rfl
theorem k5n : ((5 : Nat) : Int) = 5 := rfl
theorem k6 : ((6 : Nat) : Int) = 6 := rfl
theorem k7 : ((7 : Nat) : Int) = 7 := rfl
def byL (n k : Nat) : UInt8 := UInt8.ofNat (n * 8 / 2 ^ (8 * k))
def lenC (n i : Nat) : List AV := [byC (if 7 < i then byL n 7 else 0), byC (if 6 < i then byL n 6 else 0), byC (if 5 < i then byL n 5 else 0), byC (if 4 < i then byL n 4 else 0), byC (if 3 < i then byL n 3 else 0), byC (if 2 < i then byL n 2 else 0), byC (if 1 < i then byL n 1 else 0), byC (if 0 < i then byL n 0 else 0)]
theorem lenW (n : Nat) (h : n ≤ 281474976710656) : IntKind.wrap .u64 (IntKind.wrap .u64 (n : Int) * 2 ^ (min 3 (IntKind.bits .u64))) = ((n * 8 : Nat) : Int) := by
  show ((n : Int) % 18446744073709551616 * 8) % 18446744073709551616 = _
  omega
theorem lenB (m k : Nat) : IntKind.wrap .u8 (((m : Nat) : Int).fdiv (2 ^ k)) = ((UInt8.ofNat (m / 2 ^ k)).toNat : Int) := by
  show ((m : Int).fdiv (2 ^ k)) % 256 = _
  rw [pow_cast, Int.fdiv_eq_ediv_of_nonneg _ (Int.natCast_nonneg _), UInt8.toNat_ofNat']
  rfl
theorem sxShc {A B : Prop} (h : B) (e : A = B := by (simp (disch := omega) only [*, ↓Ed, Eu, ↓reduceIte, reduceCtorEq, Nat.reduceAdd, Nat.reduceEqDiff, Nat.reduceLT, Nat.reduceLeDiff, Int.reduceToNat, Int.reduceEq, Int.reduceLT, Int.reduceLE, w64, List.length_append, List.length_map, Int.toNat_natCast, nn, Nat.mul_one, Nat.zero_add, Int.reduceAdd, lenC, Int.reduceSub, Int.reduceMul, lenB, lenW, k0, k1, k2, k3, k4, k5n, k6, k7]; first | done | rfl)) : A := e ▸ h
theorem p_len8 (n : Nat) (h : n ≤ 281474976710656) : CP Tryz.prog 73 [.int .i64 (n : Int)] (.str (len8 n)) := by
  refine ok_sha_length _ _ (by simp) ?_
  simp (disch := omega) only [c_sha_length, ↓Ed, Eu, ↓reduceIte, reduceCtorEq, Nat.reduceAdd, Nat.reduceEqDiff, Nat.reduceLT, Nat.reduceLeDiff, Int.reduceToNat, Int.reduceEq, Int.reduceLT, Int.reduceLE, w64, List.length_append, List.length_map, Int.toNat_natCast, nn, Nat.mul_one, Nat.zero_add, Int.reduceAdd, lenC, Int.reduceSub, Int.reduceMul, lenB, lenW, k0, k1, k2, k3, k4, k5n, k6, k7]
  repeat' ((first | refine NewB_intro0 (fun b => ?_) | (refine NewB_intro (fun b hb => ?_); simp only [ln_cons2, ln_nil, and_true] at hb) | (with_reducible apply wA; focus exact OM_a) | ((first | refine gW_sp ?_ | refine condW_sp ?_ | refine pickW_sp ?_); (try refine Sp_n ?_); (first | refine wT ?_ | refine wF ?_ | refine wL (fun h h' => ?_) (fun h h' => ?_) | refine wE (fun h h' => ?_) (fun h h' => ?_) | refine Sp_split (fun h => ?_) (fun h => ?_)) <;> (try (exfalso; omega))) | refine TreeW_intro (by rfl) ?_ | refine TreeW_all ?_ | refine upQ_intro ?_ | refine Two_intro ?_ ?_ | exact wZ | fail) <;> (try refine sxShc ?_) <;> (try exact True.intro))
  refine wpx_loop (fun i : Nat => ⟨lk [(0, .int .i64 (n : Int)), (3, .ptr b 0), (5, .int .i64 (i : Int))], lk [(b, lenC n i)]⟩) (fun i => i ≤ 8) (fun i => 8 - i) 0 (by omega) (Le_lit (by simp [LeL, lk, lenC, byC])) ?_
  intro i hi
  by_cases hlt : i < 8
  · have f1 : Fact (decide ((i : Int) < 8) = true) := by simp only [Fact, Bool.not_eq_true', Bool.not_eq_false', decide_eq_true_eq, decide_eq_false_iff_not]; omega
    have hc8 : i = 0 ∨ i = 1 ∨ i = 2 ∨ i = 3 ∨ i = 4 ∨ i = 5 ∨ i = 6 ∨ i = 7 := by omega
    rcases hc8 with rfl | rfl | rfl | rfl | rfl | rfl | rfl | rfl
    all_goals simp (disch := omega) only [↓Ed, Eu, ↓reduceIte, reduceCtorEq, Nat.reduceAdd, Nat.reduceEqDiff, Nat.reduceLT, Nat.reduceLeDiff, Int.reduceToNat, Int.reduceEq, Int.reduceLT, Int.reduceLE, w64, List.length_append, List.length_map, Int.toNat_natCast, nn, Nat.mul_one, Nat.zero_add, Int.reduceAdd, lenC, Int.reduceSub, Int.reduceMul, lenB, lenW, k0, k1, k2, k3, k4, k5n, k6, k7]
    all_goals repeat' ((first | refine NewB_intro0 (fun b => ?_) | (refine NewB_intro (fun b hb => ?_); simp only [ln_cons2, ln_nil, and_true] at hb) | (with_reducible apply wA; focus exact OM_a) | ((first | refine gW_sp ?_ | refine condW_sp ?_ | refine pickW_sp ?_); (try refine Sp_n ?_); (first | refine wT ?_ | refine wF ?_ | refine wL (fun h h' => ?_) (fun h h' => ?_) | refine wE (fun h h' => ?_) (fun h h' => ?_) | refine Sp_split (fun h => ?_) (fun h => ?_)) <;> (try (exfalso; omega))) | refine TreeW_intro (by rfl) ?_ | refine TreeW_all ?_ | refine upQ_intro ?_ | refine Two_intro ?_ ?_ | exact wZ | fail) <;> (try refine sxShc ?_) <;> (try exact True.intro))
    all_goals first | exact Round_lit 1 ⟨Le_lit (by simp [LeL, lk, lenC, byC, byL, IntKind.bits]), by omega, by omega⟩ | exact Round_lit 2 ⟨Le_lit (by simp [LeL, lk, lenC, byC, byL, IntKind.bits]), by omega, by omega⟩ | exact Round_lit 3 ⟨Le_lit (by simp [LeL, lk, lenC, byC, byL, IntKind.bits]), by omega, by omega⟩ | exact Round_lit 4 ⟨Le_lit (by simp [LeL, lk, lenC, byC, byL, IntKind.bits]), by omega, by omega⟩ | exact Round_lit 5 ⟨Le_lit (by simp [LeL, lk, lenC, byC, byL, IntKind.bits]), by omega, by omega⟩ | exact Round_lit 6 ⟨Le_lit (by simp [LeL, lk, lenC, byC, byL, IntKind.bits]), by omega, by omega⟩ | exact Round_lit 7 ⟨Le_lit (by simp [LeL, lk, lenC, byC, byL, IntKind.bits]), by omega, by omega⟩ | exact Round_lit 8 ⟨Le_lit (by simp [LeL, lk, lenC, byC, byL, IntKind.bits]), by omega, by omega⟩
  have f1 : Fact (decide ((i : Int) < 8) = false) := by simp only [Fact, Bool.not_eq_true', Bool.not_eq_false', decide_eq_true_eq, decide_eq_false_iff_not]; omega
  obtain rfl : i = 8 := by omega
  simp (disch := omega) only [↓Ed, Eu, ↓reduceIte, reduceCtorEq, Nat.reduceAdd, Nat.reduceEqDiff, Nat.reduceLT, Nat.reduceLeDiff, Int.reduceToNat, Int.reduceEq, Int.reduceLT, Int.reduceLE, w64, List.length_append, List.length_map, Int.toNat_natCast, nn, Nat.mul_one, Nat.zero_add, Int.reduceAdd, lenC, Int.reduceSub, Int.reduceMul, lenB, lenW, k0, k1, k2, k3, k4, k5n, k6, k7]
  repeat' ((first | refine BytesO_intro (len8 n) rfl rfl ?_ | refine NewB_intro0 (fun b => ?_) | (refine NewB_intro (fun b hb => ?_); simp only [ln_cons2, ln_nil, and_true] at hb) | (with_reducible apply wA; focus exact OM_a) | ((first | refine gW_sp ?_ | refine condW_sp ?_ | refine pickW_sp ?_); (try refine Sp_n ?_); (first | refine wT ?_ | refine wF ?_ | refine wL (fun h h' => ?_) (fun h h' => ?_) | refine wE (fun h h' => ?_) (fun h h' => ?_) | refine Sp_split (fun h => ?_) (fun h => ?_)) <;> (try (exfalso; omega))) | refine TreeW_intro (by rfl) ?_ | refine TreeW_all ?_ | refine upQ_intro ?_ | refine Two_intro ?_ ?_ | exact wZ | fail) <;> (try refine sxShc ?_) <;> (try exact True.intro))
abbrev hcs (l : List UInt8) : List AV := l.map byC
theorem p_sText (l : List UInt8) (hl : l.length = 32) : CP Tryz.prog 53 [.agg (hcs l)] (.str l) := by
  refine ok_sha_Text _ _ (by simp) ?_
  have hs : (hcs l).map AV.store = hcs l := by rw [List.map_map]; rfl
  have ht : List.take 32 (hcs l) = hcs l := List.take_of_length_le (by simp [hl])
  have h0 : 0 < (hcs l).length := by simp [hl]
  simp (disch := omega) only [c_sha_Text, hs, ht, h0, ↓Ed, Eu, ↓reduceIte, reduceCtorEq, Nat.reduceAdd, Nat.reduceEqDiff, Nat.reduceLT, Nat.reduceLeDiff, Int.reduceToNat, Int.reduceEq, Int.reduceLT, Int.reduceLE, w64, List.length_append, List.length_map, Int.toNat_natCast, nn, Nat.mul_one, Nat.zero_add, Int.reduceAdd, lenC, Int.reduceSub, Int.reduceMul, lenB, lenW, k0, k1, k2, k3, k4, k5n, k6, k7]
  repeat' ((first | refine BytesO_intro l rfl hl ?_ | refine NewB_intro0 (fun b => ?_) | (refine NewB_intro (fun b hb => ?_); simp only [ln_cons2, ln_nil, and_true] at hb) | (with_reducible apply wA; focus exact OM_a) | ((first | refine gW_sp ?_ | refine condW_sp ?_ | refine pickW_sp ?_); (try refine Sp_n ?_); (first | refine wT ?_ | refine wF ?_ | refine wL (fun h h' => ?_) (fun h h' => ?_) | refine wE (fun h h' => ?_) (fun h h' => ?_) | refine Sp_split (fun h => ?_) (fun h => ?_)) <;> (try (exfalso; omega))) | refine TreeW_intro (by rfl) ?_ | refine TreeW_all ?_ | refine upQ_intro ?_ | refine Two_intro ?_ ?_ | exact wZ | fail) <;> (try refine sxShc ?_) <;> (try exact True.intro))
end Go.Proofs.YtmmmbmljompamaaGreatDoor

namespace Go.Proofs.YtmmmbmljompamaaGreatDoor
set_option linter.all false
open Go.RowKit
set_option maxRecDepth 100000
theorem len8_len (n : Nat) : (len8 n).length = 8 := by simp [len8]
theorem tm1 (n : Nat) : (n : Int).tmod 64 = ((n % 64 : Nat) : Int) := rfl
theorem tm2 (n : Nat) : (119 - ((n % 64 : Nat) : Int)).tmod 64 = (((119 - n % 64) % 64 : Nat) : Int) := by
  rw [show (119 - ((n % 64 : Nat) : Int)) = ((119 - n % 64 : Nat) : Int) by omega]; rfl
theorem tq4 (i : Nat) : (i : Int).tdiv 4 = ((i / 4 : Nat) : Int) := rfl
theorem tm4 (i : Nat) : (i : Int).tmod 4 = ((i % 4 : Nat) : Int) := rfl
theorem sh4 (i : Nat) : (24 - ((i % 4 : Nat) : Int) * 8).toNat = 24 - 8 * (i % 4) := by omega
theorem arr_stoB (l : List UInt8) (i : Nat) (x : UInt8) (hi : i < l.length) : splice (l.map byC) i [byC x] = (l.set i x).map byC := by
  induction l generalizing i with
  | nil => simp at hi
  | cons y l ih => cases i with
    | zero => simp [splice]
    | succ i => simp only [List.map_cons, splice, List.set_cons_succ]; rw [ih i (by simpa using hi)]
abbrev z32 : List AV := [.int .u8 0, .int .u8 0, .int .u8 0, .int .u8 0, .int .u8 0, .int .u8 0, .int .u8 0, .int .u8 0, .int .u8 0, .int .u8 0, .int .u8 0, .int .u8 0, .int .u8 0, .int .u8 0, .int .u8 0, .int .u8 0, .int .u8 0, .int .u8 0, .int .u8 0, .int .u8 0, .int .u8 0, .int .u8 0, .int .u8 0, .int .u8 0, .int .u8 0, .int .u8 0, .int .u8 0, .int .u8 0, .int .u8 0, .int .u8 0, .int .u8 0, .int .u8 0]
theorem sxShd {A B : Prop} (h : B) (e : A = B := by (simp (disch := omega) only [*, ↓Ed, Eu, ↓reduceIte, reduceCtorEq, Nat.reduceAdd, Nat.reduceEqDiff, Nat.reduceLT, Nat.reduceLeDiff, Int.reduceToNat, Int.reduceEq, Int.reduceLT, Int.reduceLE, w64, List.length_append, List.length_map, List.length_replicate, List.length_cons, List.length_nil, List.length_drop, List.length_take, len8_len, Int.toNat_natCast, nn, Nat.mul_one, Nat.zero_add, Int.reduceAdd, join_flat, tm1, tm2, tq4, tm4, sh4, w_shr, w_to8]; first | done | rfl)) : A := e ▸ h
theorem p_begin : CP Tryz.prog 74 [] (.agg sha0.c8) := by
  refine ok_sha_begin _ _ (by simp) ?_
  simp (disch := omega) only [c_sha_begin, ↓Ed, Eu, ↓reduceIte, reduceCtorEq, Nat.reduceAdd, Nat.reduceEqDiff, Nat.reduceLT, Nat.reduceLeDiff, Int.reduceToNat, Int.reduceEq, Int.reduceLT, Int.reduceLE, w64, List.length_append, List.length_map, List.length_replicate, List.length_cons, List.length_nil, List.length_drop, List.length_take, len8_len, Int.toNat_natCast, nn, Nat.mul_one, Nat.zero_add, Int.reduceAdd, join_flat, tm1, tm2, tq4, tm4, sh4, w_shr, w_to8]
  repeat' ((first | refine NewB_intro0 (fun b => ?_) | (refine NewB_intro (fun b hb => ?_); simp only [ln_cons2, ln_nil, and_true] at hb) | (with_reducible apply wA; focus exact OM_a) | ((first | refine gW_sp ?_ | refine condW_sp ?_ | refine pickW_sp ?_); (try refine Sp_n ?_); (first | refine wT ?_ | refine wF ?_ | refine wL (fun h h' => ?_) (fun h h' => ?_) | refine wE (fun h h' => ?_) (fun h h' => ?_) | refine Sp_split (fun h => ?_) (fun h => ?_)) <;> (try (exfalso; omega))) | refine TreeW_intro (by rfl) ?_ | refine TreeW_all ?_ | refine upQ_intro ?_ | refine Two_intro ?_ ?_ | exact wZ | fail) <;> (try refine sxShd ?_) <;> (try exact True.intro))
  all_goals rfl
set_option maxHeartbeats 2000000 in
theorem p_sSum (g : AV) (l : List (List UInt8)) (hg : g.alias = .sl none 1 (l.map fun p => [.str p])) (hn : l.length ≤ 1000000) (hl : l.flatten.length ≤ 140737488355328) : CP Tryz.prog 54 [g] (.agg (hcs (shaP l.flatten))) := by
  have hJ := p_JoinS none [] l (by omega) (by rw [join_flat]; exact hl)
  rw [join_flat] at hJ
  generalize l.flatten = s at *
  have hR := p_RepZ ((119 - s.length % 64) % 64) (by omega)
  have hL := p_len8 s.length (by omega)
  refine ok_sha_Sum _ _ (by simp) ?_
  simp (disch := omega) only [c_sha_Sum, hg, ↓Ed, Eu, ↓reduceIte, reduceCtorEq, Nat.reduceAdd, Nat.reduceEqDiff, Nat.reduceLT, Nat.reduceLeDiff, Int.reduceToNat, Int.reduceEq, Int.reduceLT, Int.reduceLE, w64, List.length_append, List.length_map, List.length_replicate, List.length_cons, List.length_nil, List.length_drop, List.length_take, len8_len, Int.toNat_natCast, nn, Nat.mul_one, Nat.zero_add, Int.reduceAdd, join_flat, tm1, tm2, tq4, tm4, sh4, w_shr, w_to8]
  repeat' ((first | refine CallO_pure (hJ) ?_ | refine CallO_pure (hR) ?_ | refine CallO_pure (hL) ?_ | refine CallO_pure (p_begin) ?_ | refine NewB_intro0 (fun b => ?_) | (refine NewB_intro (fun b hb => ?_); simp only [ln_cons2, ln_nil, and_true] at hb) | (with_reducible apply wA; focus exact OM_a) | ((first | refine gW_sp ?_ | refine condW_sp ?_ | refine pickW_sp ?_); (try refine Sp_n ?_); (first | refine wT ?_ | refine wF ?_ | refine wL (fun h h' => ?_) (fun h h' => ?_) | refine wE (fun h h' => ?_) (fun h h' => ?_) | refine Sp_split (fun h => ?_) (fun h => ?_)) <;> (try (exfalso; omega))) | refine TreeW_intro (by rfl) ?_ | refine TreeW_all ?_ | refine upQ_intro ?_ | refine Two_intro ?_ ?_ | exact wZ | fail) <;> (try refine sxShd ?_) <;> (try exact True.intro))
  rename_i br
  clear hJ hR hL
  obtain ⟨N, hN, hN1⟩ : ∃ N, (padS s).length = 64 * N ∧ (padS s).length / 64 = N := ⟨_, (padS_len s).1, rfl⟩
  have hSh : shaP s = outS (runB (padS s) N) := by rw [← hN1]; rfl
  have hPd : padS s = s ++ ([128] ++ List.replicate ((119 - s.length % 64) % 64) 0 ++ len8 s.length) := by simp [padS]
  obtain ⟨z, hz, hzl⟩ : ∃ z : List AV, z32 = z ∧ z.length = 32 := ⟨_, rfl, rfl⟩
  have hPl : (padS s).length ≤ 140737488355328 + 200 := by rw [hPd]; simp [len8]; omega
  refine wpx_loop (fun k : Nat => ⟨lk [(2, .ptr br 0), (3, .str ((padS s).drop (64 * k))), (5, .ptr b 0)], lk [(br, z), (b, (runB (padS s) k).c8)]⟩) (fun k => k ≤ N) (fun k => N - k) 0 (by omega) (Le_lit (by rw [← hz, hPd]; simp [LeL, lk, hb, runB])) ?_
  clear hz hPd hN1
  rw [hSh]
  clear hSh
  intro k hk
  by_cases hlt : k < N
  · have hne : (padS s).drop (64 * k) ≠ [] := fun e => by
      have := congrArg List.length e
      rw [List.length_drop] at this
      simp at this; omega
    have f1 : Fact (decide ((padS s).drop (64 * k) = []) = false) := by simp only [Fact, Bool.not_eq_true', Bool.not_eq_false', decide_eq_true_eq, decide_eq_false_iff_not]; exact hne
    have hR : runB (padS s) (k + 1) = mixS (runB (padS s) k) (((padS s).drop (64 * k)).take 64) := rfl
    have hM := p_mix (runB (padS s) k) (((padS s).drop (64 * k)).take 64) (by rw [List.length_take, List.length_drop]; omega)
    have hdl : ((padS s).drop (64 * k)).length = 64 * N - 64 * k := by rw [List.length_drop, hN]
    have hdd : ((padS s).drop (64 * k)).drop 64 = (padS s).drop (64 * (k + 1)) := by rw [List.drop_drop]; congr 1
    rw [← hR] at hM
    have hdt : ((padS s).drop (64 * k)).take (64 * N - 64 * k) = (padS s).drop (64 * k) := List.take_of_length_le (by omega)
    generalize hS' : runB (padS s) (k + 1) = S' at *
    generalize runB (padS s) k = S at *
    generalize (padS s).drop (64 * k) = q at *
    clear hne hR
    simp (disch := omega) only [hb, ↓Ed, Eu, ↓reduceIte, reduceCtorEq, Nat.reduceAdd, Nat.reduceEqDiff, Nat.reduceLT, Nat.reduceLeDiff, Int.reduceToNat, Int.reduceEq, Int.reduceLT, Int.reduceLE, w64, List.length_append, List.length_map, List.length_replicate, List.length_cons, List.length_nil, List.length_drop, List.length_take, len8_len, Int.toNat_natCast, nn, Nat.mul_one, Nat.zero_add, Int.reduceAdd, join_flat, tm1, tm2, tq4, tm4, sh4, w_shr, w_to8]
    repeat' ((first | refine CallW_intro (hM) ?_ | refine NewB_intro0 (fun b => ?_) | (refine NewB_intro (fun b hb => ?_); simp only [ln_cons2, ln_nil, and_true] at hb) | (with_reducible apply wA; focus exact OM_a) | ((first | refine gW_sp ?_ | refine condW_sp ?_ | refine pickW_sp ?_); (try refine Sp_n ?_); (first | refine wT ?_ | refine wF ?_ | refine wL (fun h h' => ?_) (fun h h' => ?_) | refine wE (fun h h' => ?_) (fun h h' => ?_) | refine Sp_split (fun h => ?_) (fun h => ?_)) <;> (try (exfalso; omega))) | refine TreeW_intro (by rfl) ?_ | refine TreeW_all ?_ | refine upQ_intro ?_ | refine Two_intro ?_ ?_ | exact wZ | fail) <;> (try refine sxShd ?_) <;> (try exact True.intro))
    all_goals exact Round_lit (k + 1) ⟨Le_lit (by simp [LeL, lk, hb, *]), by omega, by omega⟩
  obtain rfl : k = N := by omega
  have hne : (padS s).drop (64 * k) = [] := List.drop_eq_nil_of_le (by omega)
  have f1 : Fact (decide ((padS s).drop (64 * k) = []) = true) := by simp only [Fact, Bool.not_eq_true', Bool.not_eq_false', decide_eq_true_eq, decide_eq_false_iff_not]; exact hne
  generalize runB (padS s) k = S at *
  rw [hne] at f1 ⊢
  clear hne hN hlt hk hPl
  simp (disch := omega) only [hb, ↓Ed, Eu, ↓reduceIte, reduceCtorEq, Nat.reduceAdd, Nat.reduceEqDiff, Nat.reduceLT, Nat.reduceLeDiff, Int.reduceToNat, Int.reduceEq, Int.reduceLT, Int.reduceLE, w64, List.length_append, List.length_map, List.length_replicate, List.length_cons, List.length_nil, List.length_drop, List.length_take, len8_len, Int.toNat_natCast, nn, Nat.mul_one, Nat.zero_add, Int.reduceAdd, join_flat, tm1, tm2, tq4, tm4, sh4, w_shr, w_to8]
  repeat' ((first | refine NewB_intro0 (fun b => ?_) | (refine NewB_intro (fun b hb => ?_); simp only [ln_cons2, ln_nil, and_true] at hb) | (with_reducible apply wA; focus exact OM_a) | ((first | refine gW_sp ?_ | refine condW_sp ?_ | refine pickW_sp ?_); (try refine Sp_n ?_); (first | refine wT ?_ | refine wF ?_ | refine wL (fun h h' => ?_) (fun h h' => ?_) | refine wE (fun h h' => ?_) (fun h h' => ?_) | refine Sp_split (fun h => ?_) (fun h => ?_)) <;> (try (exfalso; omega))) | refine TreeW_intro (by rfl) ?_ | refine TreeW_all ?_ | refine upQ_intro ?_ | refine Two_intro ?_ ?_ | exact wZ | fail) <;> (try refine sxShd ?_) <;> (try exact True.intro))
  rename_i bs hbs
  clear f1
  have hO : (outN S 0).map byC = z32 := rfl
  have h8 : S.c8 = S.l.map aW := rfl
  refine wpx_loop (fun i : Nat => ⟨lk [(2, .ptr br 0), (5, .ptr bs 0), (6, .ptr b 0), (32, .int .i64 (i : Int))], lk [(br, z), (bs, S.l.map aW), (b, (outN S i).map byC)]⟩) (fun i => i ≤ 32) (fun i => 32 - i) 0 (by omega) (Le_lit (by rw [hO]; simp [LeL, lk, hb, hbs])) ?_
  clear hO h8
  intro i hi
  by_cases hlt : i < 32
  · have f1 : Fact (decide ((i : Int) < 32) = true) := by simp only [Fact, Bool.not_eq_true', Bool.not_eq_false', decide_eq_true_eq, decide_eq_false_iff_not]; omega
    have h4 : i / 4 < 8 := by omega
    have hld := arr_ld S.l (i / 4) h4
    have hst := arr_stoB (outN S i) i (outB S i) (by rw [outN_len S i hi]; exact hlt)
    rw [outN_set S i hlt _ rfl] at hst
    have hlen : ((outN S i).map byC).length = 32 := by rw [List.length_map, outN_len S i hi]
    have hlen8 : (S.l.map aW).length = 8 := rfl
    have hB : outB S i = wB ((S.l.getD (i / 4) 0) >>> (24 - 8 * (i % 4))) := rfl
    rw [hB] at hst
    simp only [byC] at hst
    generalize S.l = sl at *
    generalize (outN S i).map byC = X at *
    clear hB
    simp (disch := omega) only [hb, hbs, ↓Ed, Eu, ↓reduceIte, reduceCtorEq, Nat.reduceAdd, Nat.reduceEqDiff, Nat.reduceLT, Nat.reduceLeDiff, Int.reduceToNat, Int.reduceEq, Int.reduceLT, Int.reduceLE, w64, List.length_append, List.length_map, List.length_replicate, List.length_cons, List.length_nil, List.length_drop, List.length_take, len8_len, Int.toNat_natCast, nn, Nat.mul_one, Nat.zero_add, Int.reduceAdd, join_flat, tm1, tm2, tq4, tm4, sh4, w_shr, w_to8]
    repeat' ((first | refine NewB_intro0 (fun b => ?_) | (refine NewB_intro (fun b hb => ?_); simp only [ln_cons2, ln_nil, and_true] at hb) | (with_reducible apply wA; focus exact OM_a) | ((first | refine gW_sp ?_ | refine condW_sp ?_ | refine pickW_sp ?_); (try refine Sp_n ?_); (first | refine wT ?_ | refine wF ?_ | refine wL (fun h h' => ?_) (fun h h' => ?_) | refine wE (fun h h' => ?_) (fun h h' => ?_) | refine Sp_split (fun h => ?_) (fun h => ?_)) <;> (try (exfalso; omega))) | refine TreeW_intro (by rfl) ?_ | refine TreeW_all ?_ | refine upQ_intro ?_ | refine Two_intro ?_ ?_ | exact wZ | fail) <;> (try refine sxShd ?_) <;> (try exact True.intro))
    all_goals exact Round_lit (i + 1) ⟨Le_lit (by simp [LeL, lk, hb, hbs]), by omega, by omega⟩
  have f1 : Fact (decide ((i : Int) < 32) = false) := by simp only [Fact, Bool.not_eq_true', Bool.not_eq_false', decide_eq_true_eq, decide_eq_false_iff_not]; omega
  obtain rfl : i = 32 := by omega
  have hT : List.take 32 (hcs (outS S)) = hcs (outS S) := List.take_of_length_le (by simp [outS])
  have hst : (hcs (outS S)).map AV.store = hcs (outS S) := by rw [List.map_map]; rfl
  have hP := splice_whole z (hcs (outS S)) (by rw [hzl]; simp [outS])
  have hL : (hcs (outS S)).length = 32 := by simp [outS]
  rw [show (outN S 32).map byC = hcs (outS S) by rw [outN_all]]
  generalize hcs (outS S) = X at *
  generalize S.l.map aW = Y at *
  simp (disch := omega) only [hb, hbs, hT, hst, hP, hL, hzl, ↓Ed, Eu, ↓reduceIte, reduceCtorEq, Nat.reduceAdd, Nat.reduceEqDiff, Nat.reduceLT, Nat.reduceLeDiff, Int.reduceToNat, Int.reduceEq, Int.reduceLT, Int.reduceLE, w64, List.length_append, List.length_map, List.length_replicate, List.length_cons, List.length_nil, List.length_drop, List.length_take, len8_len, Int.toNat_natCast, nn, Nat.mul_one, Nat.zero_add, Int.reduceAdd, join_flat, tm1, tm2, tq4, tm4, sh4, w_shr, w_to8]
  repeat' ((first | refine NewB_intro0 (fun b => ?_) | (refine NewB_intro (fun b hb => ?_); simp only [ln_cons2, ln_nil, and_true] at hb) | (with_reducible apply wA; focus exact OM_a) | ((first | refine gW_sp ?_ | refine condW_sp ?_ | refine pickW_sp ?_); (try refine Sp_n ?_); (first | refine wT ?_ | refine wF ?_ | refine wL (fun h h' => ?_) (fun h h' => ?_) | refine wE (fun h h' => ?_) (fun h h' => ?_) | refine Sp_split (fun h => ?_) (fun h => ?_)) <;> (try (exfalso; omega))) | refine TreeW_intro (by rfl) ?_ | refine TreeW_all ?_ | refine upQ_intro ?_ | refine Two_intro ?_ ?_ | exact wZ | fail) <;> (try refine sxShd ?_) <;> (try exact True.intro))
end Go.Proofs.YtmmmbmljompamaaGreatDoor

namespace Go.Proofs.YtmmmbmljompamaaGreatDoor
set_option linter.all false
open Go.RowKit
set_option maxRecDepth 100000
end Go.Proofs.YtmmmbmljompamaaGreatDoor

namespace Go.Proofs.YtmmmbmljompamaaGreatDoor
set_option linter.all false
open Go.RowKit
set_option maxRecDepth 100000
end Go.Proofs.YtmmmbmljompamaaGreatDoor

namespace Go.Proofs.YtmmmbmljompamaaGreatDoor
set_option linter.all false
open Go.RowKit
theorem or_byte (n : Nat) (b : UInt8) (h : n < 4294967296) : IntKind.wrap .i64 ((BitVec.ofInt (IntKind.bits .i64) (IntKind.wrap .i64 ((n : Int) * 2 ^ (min 8 (IntKind.bits .i64)))) ||| BitVec.ofInt (IntKind.bits .i64) (IntKind.wrap .i64 (b.toNat : Int))).toNat : Int) = ((n * 256 + b.toNat : Nat) : Int) := by
  have hb := b.toNat_lt
  have w : ∀ m : Nat, m < 9223372036854775808 → IntKind.wrap .i64 (m : Int) = (m : Int) := fun m hm => by
    have h1 : (m : Int) % 18446744073709551616 = m := by omega
    show (if (true && decide ((m : Int) % 18446744073709551616 ≥ 9223372036854775808)) = true then (m : Int) % 18446744073709551616 - 18446744073709551616 else (m : Int) % 18446744073709551616) = m
    rw [h1, if_neg (by simp; omega)]
  have e1 : IntKind.wrap .i64 ((n : Int) * 2 ^ (min 8 (IntKind.bits .i64))) = ((n * 256 : Nat) : Int) := by
    rw [← w (n * 256) (by omega)]
    rfl
  rw [e1, w b.toNat (by omega)]
  have e2 : (BitVec.ofInt (IntKind.bits .i64) ((n * 256 : Nat) : Int) ||| BitVec.ofInt (IntKind.bits .i64) (b.toNat : Int)).toNat = n * 256 + b.toNat := by
    show (BitVec.ofInt 64 ((n * 256 : Nat) : Int) ||| BitVec.ofInt 64 (b.toNat : Int)).toNat = _
    rw [BitVec.toNat_or, BitVec.ofInt_natCast, BitVec.ofInt_natCast, BitVec.toNat_ofNat, BitVec.toNat_ofNat, Nat.mod_eq_of_lt (by omega), Nat.mod_eq_of_lt (by omega), show n * 256 = n <<< 8 by rw [Nat.shiftLeft_eq], Nat.shiftLeft_add_eq_or_of_lt (by omega)]
  rw [e2]
  exact w _ (by omega)
def sum4 (s : List UInt8) : List UInt8 := (shaP s).take 4
end Go.Proofs.YtmmmbmljompamaaGreatDoor

namespace Go.Proofs.YtmmmbmljompamaaGreatDoor
set_option linter.all false
open Go.RowKit
set_option maxRecDepth 100000
theorem t8n (n : Nat) : (8 + (n : Int)).toNat = 8 + n := by omega
theorem c256 (n b : Nat) : (n : Int) * 256 + (b : Int) = ((n * 256 + b : Nat) : Int) := by omega
theorem sxFrm {A B : Prop} (h : B) (e : A = B := by (simp (disch := omega) only [*, ↓Ed, Eu, ↓reduceIte, reduceCtorEq, Nat.reduceAdd, Nat.reduceEqDiff, Nat.reduceLT, Nat.reduceLeDiff, Int.reduceToNat, Int.reduceEq, Int.reduceLT, Int.reduceLE, w64, List.length_append, List.length_map, List.length_cons, List.length_nil, Int.toNat_natCast, nn, Nat.mul_one, Nat.zero_add, Int.reduceAdd, or_byte, t8n, Int.zero_add, c256, Int.sub_zero]; first | done | rfl)) : A := e ▸ h
theorem p_fsum (s : List UInt8) (h : s.length ≤ 100000000000000) : CP Tryz.prog 40 [.str s] (.str (sum4 s)) := by
  have hS := p_sSum (.sl none 1 [[.str s]]) [s] rfl (by simp) (by simp; omega)
  rw [show [s].flatten = s by simp] at hS
  have hT := p_sText (shaP s) (shaP_len s)
  have hl := shaP_len s
  refine ok_frame_sum _ _ (by simp) ?_
  simp (disch := omega) only [c_frame_sum, ↓Ed, Eu, ↓reduceIte, reduceCtorEq, Nat.reduceAdd, Nat.reduceEqDiff, Nat.reduceLT, Nat.reduceLeDiff, Int.reduceToNat, Int.reduceEq, Int.reduceLT, Int.reduceLE, w64, List.length_append, List.length_map, List.length_cons, List.length_nil, Int.toNat_natCast, nn, Nat.mul_one, Nat.zero_add, Int.reduceAdd, or_byte, t8n, Int.zero_add, c256, Int.sub_zero]
  repeat' ((first | refine CallO_pure (hS) ?_ | refine CallO_pure (hT) ?_ | refine NewB_intro0 (fun b => ?_) | (refine NewB_intro (fun b hb => ?_); simp only [ln_cons2, ln_nil, and_true] at hb) | (with_reducible apply wA; focus exact OM_a) | ((first | refine gW_sp ?_ | refine condW_sp ?_ | refine pickW_sp ?_); (try refine Sp_n ?_); (first | refine wT ?_ | refine wF ?_ | refine wL (fun h h' => ?_) (fun h h' => ?_) | refine wE (fun h h' => ?_) (fun h h' => ?_) | refine Sp_split (fun h => ?_) (fun h => ?_)) <;> (try (exfalso; omega))) | refine TreeW_intro (by rfl) ?_ | refine TreeW_all ?_ | refine upQ_intro ?_ | refine Two_intro ?_ ?_ | exact wZ | fail) <;> (try refine sxFrm ?_) <;> (try exact True.intro))
  all_goals rfl
end Go.Proofs.YtmmmbmljompamaaGreatDoor
