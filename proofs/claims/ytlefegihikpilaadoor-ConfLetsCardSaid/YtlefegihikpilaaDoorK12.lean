import Derived.Test.YtlefegihikpilaaDoorK9
import Derived.Test.YtlefegihikpilaaDoorK10
import Derived.Test.YtlefegihikpilaaDoorK11
import Derived.Shelf.Strings.SlTrimAscii
import Derived.WalkSmall
import Derived.Test.YtlefegihikpilaaDoorK8
import Derived.Lib.ItoaNum
import Derived.Lib.IndexMore
import Derived.Lib.Strings
/- library functions that chapter 3 calls -/
namespace Go.Proofs.YtlefegihikpilaaDoor
set_option linter.all false
open Go.RowKit
set_option maxRecDepth 100000
theorem sz_str (l : List UInt8) : (⟨l.toArray⟩ : ByteArray).size = l.length := by simp [ByteArray.size]
theorem below_grow {W : World} {n : Nat} {os : Array Obj} : Below W.heap.size W (Sort.grow (W.drewN n) os) :=
  ⟨rfl, rfl, rfl, by simp [Sort.grow, World.drewN], fun k hk => by simp [Sort.grow, World.drewN, Array.getElem?_append, hk]⟩
theorem maxLen_cell {W : World} {U : Nat → Nat → Prop} (h : Glob W U) : ∃ m, W.cell? ⟨1, 0, none⟩ = some (.int .i64 m) := by
  obtain ⟨⟨cs, ty, fr, e, m, hm⟩, _⟩ := h (1, fun cs => ∃ m, cs[0]? = some (.int .i64 m)) (by simp [globTabs])
  exact ⟨m, by simp [World.cell?, e, hm]⟩
theorem pow_tab {W : World} {U : Nat → Nat → Prop} (h : Glob W U) : Lib.TabIs Tryd.prog W "internal/strconv.uint64pow10" .u64 Lib.pow10Tab := by
  obtain ⟨⟨cs, ty, fr, e, rfl⟩, _⟩ := h (0, fun cs => cs = (Lib.pow10Tab.map fun z => Value.int .u64 z).toArray) (by simp [globTabs])
  have hg : Tryd.prog.globalNamed "internal/strconv.uint64pow10" = some 0 := by kernel_rfl
  simp only [Lib.TabIs, World.var?, hg, Option.bind_some, e]
theorem p_Itoa (n : Int) (h : -9223372036854775808 ≤ n ∧ n ≤ 9223372036854775807) : CP Tryd.prog 16 [.int .i64 n] (.str (Lib.itoa n)) :=
  CP_libG (vs := [.int .i64 n]) (v := .string ⟨(Lib.itoa n).toArray⟩) rfl (by simp) rfl fun W U hG =>
    (Tryd.strconv_Itoa n h.1 h.2 W (pow_tab hG)).mono fun e w' ⟨h1, k, os, h2⟩ => ⟨h1, h2 ▸ below_grow⟩
theorem p_CutPrefix (s p : List UInt8) : CP Tryd.prog 109 [.str s, .str p] (.tup [.str (Lib.trimPrefix s p), .bool (Lib.hasPrefix s p)]) :=
  CP_lib (vs := [.string ⟨s.toArray⟩, .string ⟨p.toArray⟩]) (v := .tuple #[.string ⟨(Lib.trimPrefix s p).toArray⟩, .bool (Lib.hasPrefix s p)]) rfl (by simp) rfl fun W =>
    (Tryd.strings_CutPrefix ⟨s.toArray⟩ ⟨p.toArray⟩ W).mono fun e w' ⟨h1, h2⟩ => ⟨h1, h2 ▸ Below.refl _ _⟩
theorem p_Cut (s p : List UInt8) (hs : s.length ≤ 1000000) : CP Tryd.prog 60 [.str s, .str p] (.tup [.str (Lib.cut s p).1, .str (Lib.cut s p).2.1, .bool (Lib.cut s p).2.2]) :=
  CP_libG (vs := [.string ⟨s.toArray⟩, .string ⟨p.toArray⟩]) (v := .tuple #[.string ⟨(Lib.cut s p).1.toArray⟩, .string ⟨(Lib.cut s p).2.1.toArray⟩, .bool (Lib.cut s p).2.2]) rfl (by simp) rfl fun W U hG => by
    obtain ⟨m, hm⟩ := maxLen_cell hG
    exact (Tryd.strings_Cut ⟨s.toArray⟩ ⟨p.toArray⟩ m W (by rw [sz_str]; omega) hm).mono fun e w' ⟨h1, n, h2⟩ => ⟨h1, h2 ▸ below_drewN (Below.refl _ _) n⟩
abbrev digs : List UInt8 := [48, 49, 50, 51, 52, 53, 54, 55, 56, 57]
theorem p_TrimD (s : List UInt8) (hs : s.length ≤ 16000000) : CP Tryd.prog 47 [.str s, .str digs] (.str (Lib.trimS s digs)) :=
  CP_lib (vs := [.string ⟨s.toArray⟩, .string ⟨digs.toArray⟩]) (v := .string ⟨(Lib.trimS s digs).toArray⟩) rfl (by simp) rfl fun W =>
    (Any.strings_Trim_laid Tryd.lays160 (by kernel_rfl) ⟨s.toArray⟩ ⟨digs.toArray⟩ W (by rw [sz_str]; omega) (by decide) (ascii_of_all (by decide))).mono fun e w' ⟨g1, g2⟩ => ⟨g1, g2⟩
theorem p_sliteClone (s : List UInt8) (hs : s.length ≤ 281474976710656) : CP Tryd.prog 98 [.str s] (.str s) :=
  CP_lib (vs := [.string ⟨s.toArray⟩]) (v := .string ⟨s.toArray⟩) rfl (by simp) rfl fun W => Tryd.stringslite_Clone _ W (by rw [sz_str]; exact hs)
theorem p_Clone (s : List UInt8) (hs : s.length ≤ 281474976710656) : CP Tryd.prog 81 [.str s] (.str s) := by
  refine ok_strings_Clone _ _ (by simp) ?_
  simp only [c_strings_Clone, ↓Ed, Eu, ↓reduceIte, reduceCtorEq, Nat.reduceAdd, Nat.reduceEqDiff, Nat.reduceLT, Nat.reduceLeDiff, Int.reduceToNat, Int.reduceEq, Int.reduceLT, Int.reduceLE]
  repeat' ((first | refine CallO_pure (p_sliteClone _ (by omega)) ?_ | refine NewB_intro0 (fun b => ?_) | (refine NewB_intro (fun b hb => ?_); simp only [ln_cons2, ln_nil, and_true] at hb) | (with_reducible apply And.intro; (focus (first | omega | (simp only [Fact, Bool.not_eq_true', Bool.not_eq_false', decide_eq_true_eq, decide_eq_false_iff_not] at *; omega)))) | ((first | refine gW_sp ?_ | refine condW_sp ?_ | refine pickW_sp ?_); (try refine Sp_n ?_); (first | refine Sp_t (by assumption) ?_ | refine Sp_f (by assumption) ?_ | refine Sp_split (fun h => ?_) (fun h => ?_)) <;> (first | have h' := Fact_lt h | have h' := Fact_nlt h | have h' := Fact_le h | have h' := Fact_nle h | skip) <;> (try (exfalso; omega))) | refine TreeW_intro (by rfl) ?_ | refine TreeW_all ?_ | refine upQ_intro ?_ | refine Two_intro ?_ ?_ | (refine leK_lit ?_; (simp [-List.getD_eq_getElem?_getD, LeL, lk, *]; done)) | (refine leK_dd ?_; (simp [-List.getD_eq_getElem?_getD, LeS, LeL, lk, *]; done)) | (simp only [Fact, Bool.not_eq_true', Bool.not_eq_false', decide_eq_true_eq, decide_eq_false_iff_not] at *; refine leK_dd ?_; (simp [-List.getD_eq_getElem?_getD, LeS, LeL, lk, *]; done)) | (show (_ : Nat) ≤ _; omega)) <;> (try simp (disch := omega) only [*, ↓Ed, Eu, ↓reduceIte, reduceCtorEq, Nat.reduceAdd, Nat.reduceEqDiff, Nat.reduceLT, Nat.reduceLeDiff, Int.reduceToNat, Int.reduceEq, Int.reduceLT, Int.reduceLE]))
/-- The pieces between slashes. -/
def pieces (s : List UInt8) : List (List UInt8) := Lib.splitK [47] 0 (Lib.countB ⟨s.toArray⟩ ⟨#[47]⟩) s
theorem p_Split (s : List UInt8) (hs : s.length ≤ 1000000) : CP Tryd.prog 33 [.str s, .str [47]] (.sl none 1 ((pieces s).map fun p => [AV.str p])) := by
  intro W U us hG hl hu
  obtain ⟨m, hm⟩ := maxLen_cell hG
  have he : us = [.string ⟨s.toArray⟩, .string ⟨#[47]⟩] := by
    match us, hl with
    | [a, b], _ =>
      have h1 := (hu 0 a _ rfl rfl).str_inv
      have h2 := (hu 1 b _ rfl rfl).str_inv
      rw [h1, h2]
  subst he
  refine (Tryd.strings_Split ⟨s.toArray⟩ ⟨#[47]⟩ m W (by rw [sz_str]; omega) hm (by decide)).mono ?_
  rintro e W' ⟨rfl, rfl⟩
  have hd := Lib.splitB_data ⟨#[47]⟩ 0 (Lib.countB ⟨s.toArray⟩ ⟨#[47]⟩) ⟨s.toArray⟩
  have hn := Lib.splitB_all ⟨#[47]⟩ (by decide) 0 (Lib.countB ⟨s.toArray⟩ ⟨#[47]⟩) ⟨s.toArray⟩ rfl
  have hle := Lib.countB_le ⟨#[47]⟩ (by decide) s.length ⟨s.toArray⟩ (by rw [sz_str]; exact Nat.le_refl _)
  rw [sz_str] at hle
  have hp : pieces s = (Lib.splitB ⟨#[47]⟩ 0 (Lib.countB ⟨s.toArray⟩ ⟨#[47]⟩) ⟨s.toArray⟩).map (·.data.toList) := hd.symm
  generalize hB : Lib.splitB ⟨#[47]⟩ 0 (Lib.countB ⟨s.toArray⟩ ⟨#[47]⟩) ⟨s.toArray⟩ = B at hn hp
  generalize hc : Lib.countB ⟨s.toArray⟩ ⟨#[47]⟩ = c at hn hle
  have hE := Ext.alloc W U (.cells (B.map Value.string).toArray 9) (fun _ => False)
  refine ⟨_, _, rfl, ?_, trivial, hE⟩
  rw [hp]
  have hlen : c + 1 = ((B.map (·.data.toList)).map fun p => [AV.str p]).length := by simp [hn]
  rw [hlen]
  refine .sl _ _ none _ W.heap.size 0 1 (fun i _ => (B.map Value.string).getD i undef) (Nat.le_refl _) ?_ (fun _ => rfl) (fun e he => ?_) (fun i j hi hj => ?_) (fun i e j x he hx => ?_)
  · rw [← hlen]; unfold maxLen; omega
  · simp only [List.map_map, List.mem_map, Function.comp] at he
    obtain ⟨a, _, rfl⟩ := he
    rfl
  · have hi' : i < B.length := by simpa using hi
    obtain rfl : j = 0 := by omega
    refine ⟨?_, ?_, by simp⟩
    · have e : (W.alloc (.cells (B.map Value.string).toArray 9)).heap[W.heap.size]? = some (.cells (B.map Value.string).toArray 9) := by simp only [World.alloc, Array.getElem?_push_size]
      have e2 : 0 + i * 1 + 0 = i := by omega
      rw [e2]
      simp only [World.cell?, e]
      simp [hi']
    · simp [hi', Value.oneCell']
  · simp only [List.map_map, List.getElem?_map, Option.map_eq_some_iff, Function.comp] at he
    obtain ⟨a, ha, rfl⟩ := he
    cases j with
    | zero =>
      simp only [List.getElem?_cons_zero, Option.some.injEq] at hx
      subst hx
      have : (B.map Value.string).getD i undef = .string a := by simp [ha]
      show VR _ _ ((B.map Value.string).getD i undef) _
      rw [this]
      exact .str _
    | succ j => simp at hx
end Go.Proofs.YtlefegihikpilaaDoor

/- plain laws: names -/
namespace Go.Proofs.YtlefegihikpilaaDoor
set_option linter.all false
def okAt (s : List UInt8) (j : Nat) : Prop := (97 ≤ (s.getD j 0).toNat ∧ (s.getD j 0).toNat ≤ 122) ∨ j ≠ 0 ∧ ((48 ≤ (s.getD j 0).toNat ∧ (s.getD j 0).toNat ≤ 57) ∨ (s.getD j 0).toNat = 45)
def nameQ (s : List UInt8) : Prop := s ≠ [] ∧ s.length ≤ 12 ∧ ∀ j, j < s.length → okAt s j
open Classical in
noncomputable def nameP (s : List UInt8) : Bool := decide (nameQ s)
theorem nameP_t {s : List UInt8} (h : nameQ s) : nameP s = true := by simp [nameP, h]
theorem nameP_f {s : List UInt8} (h : ¬ nameQ s) : nameP s = false := by simp [nameP, h]
theorem nameP_iff {s : List UInt8} : nameP s = true ↔ nameQ s := by simp [nameP]
theorem name_bad {s : List UInt8} {k : Nat} (hk : k < s.length) (h : ¬ okAt s k) : false = nameP s := (nameP_f fun g => h (g.2.2 k hk)).symm
theorem name_end {s : List UInt8} {k : Nat} (hk : s.length ≤ k) (h : ∀ j, j < k → okAt s j) : nameQ s ↔ s ≠ [] ∧ s.length ≤ 12 := ⟨fun g => ⟨g.1, g.2.1⟩, fun g => ⟨g.1, g.2, fun j hj => h j (by omega)⟩⟩
theorem name_dec {s : List UInt8} {k : Nat} (hk : s.length ≤ k) (h : ∀ j, j < k → okAt s j) : nameP s = decide (s.length ≠ 0 ∧ s.length ≤ 12) := by
  unfold nameP
  rw [decide_eq_decide, name_end hk h, ne_eq, ← List.length_eq_zero_iff]
/-- An end: a name and a number. -/
noncomputable def mayP (p : List UInt8) (c : Int) : Bool := nameP p && decide (0 ≤ c) && decide (c ≤ 999)
theorem name_step {s : List UInt8} {k : Nat} (h : ∀ j, j < k → okAt s j) (g : okAt s k) : ∀ j, j < k + 1 → okAt s j := fun j hj => by
  by_cases e : j = k
  · subst e; exact g
  · exact h j (by omega)
end Go.Proofs.YtlefegihikpilaaDoor

/- chapter 3: names, ends -/
namespace Go.Proofs.YtlefegihikpilaaDoor
set_option linter.all false
set_option maxRecDepth 100000
theorem st_nil (s : List UInt8) : (s = ([] : List UInt8)) = (s.length = 0) := by simp [List.length_eq_zero_iff]
set_option maxHeartbeats 4000000 in
theorem p_Name (s : List UInt8) (hs : s.length ≤ 4611686018427387904) : CP Tryd.prog 36 [.str s] (.bool (nameP s)) := by
  refine ok_path_Name _ _ (by simp) ?_
  simp only [c_path_Name, ↓Ed, Eu, ↓reduceIte, reduceCtorEq, Nat.reduceAdd, Nat.reduceEqDiff, Nat.reduceLT, Nat.reduceLeDiff, Int.reduceToNat, Int.reduceEq, Int.reduceLT, Int.reduceLE, w64, st_nil]
  repeat' ((first | refine NewB_intro0 (fun b => ?_) | (refine NewB_intro (fun b hb => ?_); simp only [ln_cons2, ln_nil, and_true] at hb) | (with_reducible apply And.intro; (focus (first | omega | (simp only [Fact, Bool.not_eq_true', Bool.not_eq_false', decide_eq_true_eq, decide_eq_false_iff_not] at *; omega)))) | ((first | refine gW_sp ?_ | refine condW_sp ?_ | refine pickW_sp ?_); (try refine Sp_n ?_); (first | refine Sp_t (by assumption) ?_ | refine Sp_f (by assumption) ?_ | refine Sp_split (fun h => ?_) (fun h => ?_)) <;> (first | have h' := Fact_lt h | have h' := Fact_nlt h | have h' := Fact_le h | have h' := Fact_nle h | skip) <;> (try (exfalso; omega))) | refine TreeW_intro (by rfl) ?_ | refine TreeW_all ?_ | refine upQ_intro ?_ | refine Two_intro ?_ ?_ | (refine leK_lit ?_; (simp [-List.getD_eq_getElem?_getD, LeL, lk, *]; done)) | (refine leK_dd ?_; (simp [-List.getD_eq_getElem?_getD, LeS, LeL, lk, *]; done)) | (simp only [Fact, Bool.not_eq_true', Bool.not_eq_false', decide_eq_true_eq, decide_eq_false_iff_not] at *; refine leK_dd ?_; (simp [-List.getD_eq_getElem?_getD, LeS, LeL, lk, *]; done)) | (show (_ : Nat) ≤ _; omega)) <;> (try simp (disch := omega) only [*, ↓Ed, Eu, ↓reduceIte, reduceCtorEq, Nat.reduceAdd, Nat.reduceEqDiff, Nat.reduceLT, Nat.reduceLeDiff, Int.reduceToNat, Int.reduceEq, Int.reduceLT, Int.reduceLE, w64, st_nil]))
  refine wpx_loop (fun k : Nat => ⟨lk [(0, .str s), (7, .int .i64 s.length), (8, .int .i64 k)], lk []⟩) (fun k => k ≤ s.length ∧ Fact (∀ j, j < k → okAt s j)) (fun k => s.length - k) 0 ⟨by omega, fun j h => by omega⟩ (Le_lit (by simp [LeL, lk])) ?_
  intro k ⟨h1, h2⟩
  simp only [↓Ed, Eu, ↓reduceIte, reduceCtorEq, Nat.reduceAdd, Nat.reduceEqDiff, Nat.reduceLT, Nat.reduceLeDiff, Int.reduceToNat, Int.reduceEq, Int.reduceLT, Int.reduceLE, w64, st_nil]
  repeat' ((first | refine NewB_intro0 (fun b => ?_) | (refine NewB_intro (fun b hb => ?_); simp only [ln_cons2, ln_nil, and_true] at hb) | (with_reducible apply And.intro; (focus (first | omega | (simp only [Fact, Bool.not_eq_true', Bool.not_eq_false', decide_eq_true_eq, decide_eq_false_iff_not] at *; omega)))) | ((first | refine gW_sp ?_ | refine condW_sp ?_ | refine pickW_sp ?_); (try refine Sp_n ?_); (first | refine Sp_t (by assumption) ?_ | refine Sp_f (by assumption) ?_ | refine Sp_split (fun h => ?_) (fun h => ?_)) <;> (first | have h' := Fact_lt h | have h' := Fact_nlt h | have h' := Fact_le h | have h' := Fact_nle h | skip) <;> (try (exfalso; omega))) | refine TreeW_intro (by rfl) ?_ | refine TreeW_all ?_ | refine upQ_intro ?_ | refine Two_intro ?_ ?_ | (refine leK_lit ?_; (simp [-List.getD_eq_getElem?_getD, LeL, lk, *]; done)) | (refine leK_dd ?_; (simp [-List.getD_eq_getElem?_getD, LeS, LeL, lk, *]; done)) | (simp only [Fact, Bool.not_eq_true', Bool.not_eq_false', decide_eq_true_eq, decide_eq_false_iff_not] at *; refine leK_dd ?_; (simp [-List.getD_eq_getElem?_getD, LeS, LeL, lk, *]; done)) | (show (_ : Nat) ≤ _; omega)) <;> (try simp (disch := omega) only [*, ↓Ed, Eu, ↓reduceIte, reduceCtorEq, Nat.reduceAdd, Nat.reduceEqDiff, Nat.reduceLT, Nat.reduceLeDiff, Int.reduceToNat, Int.reduceEq, Int.reduceLT, Int.reduceLE, w64, st_nil]))
  all_goals simp only [Fact, Bool.not_eq_true', Bool.not_eq_false', decide_eq_true_eq, decide_eq_false_iff_not, st_nil] at *
  all_goals first
    | (refine Round_lit (k + 1) ⟨Le_lit (by simp [LeL, lk]), ⟨by omega, name_step h2 (by unfold okAt; omega)⟩, by omega⟩; done)
    | (refine name_bad (k := k) (by omega) (by unfold okAt; omega); done)
    | (exact (nameP_f fun g => g.1 (List.eq_nil_of_length_eq_zero (by omega))).symm)
    | (rw [name_dec (by omega) h2, decide_eq_decide]; omega)
    | skip
theorem p_pMay (p : List UInt8) (c : Int) (hs : p.length ≤ 4611686018427387904) : CP Tryd.prog 39 [.agg [.str p, .int .i64 c]] (.bool (mayP p c)) := by
  refine ok_path_May _ _ (by simp) ?_
  simp only [c_path_May, ↓Ed, Eu, ↓reduceIte, reduceCtorEq, Nat.reduceAdd, Nat.reduceEqDiff, Nat.reduceLT, Nat.reduceLeDiff, Int.reduceToNat, Int.reduceEq, Int.reduceLT, Int.reduceLE, w64, st_nil]
  repeat' ((first | refine CallO_pure (p_Name p hs) ?_ | refine NewB_intro0 (fun b => ?_) | (refine NewB_intro (fun b hb => ?_); simp only [ln_cons2, ln_nil, and_true] at hb) | (with_reducible apply And.intro; (focus (first | omega | (simp only [Fact, Bool.not_eq_true', Bool.not_eq_false', decide_eq_true_eq, decide_eq_false_iff_not] at *; omega)))) | ((first | refine gW_sp ?_ | refine condW_sp ?_ | refine pickW_sp ?_); (try refine Sp_n ?_); (first | refine Sp_t (by assumption) ?_ | refine Sp_f (by assumption) ?_ | refine Sp_split (fun h => ?_) (fun h => ?_)) <;> (first | have h' := Fact_lt h | have h' := Fact_nlt h | have h' := Fact_le h | have h' := Fact_nle h | skip) <;> (try (exfalso; omega))) | refine TreeW_intro (by rfl) ?_ | refine TreeW_all ?_ | refine upQ_intro ?_ | refine Two_intro ?_ ?_ | (refine leK_lit ?_; (simp [-List.getD_eq_getElem?_getD, LeL, lk, *]; done)) | (refine leK_dd ?_; (simp [-List.getD_eq_getElem?_getD, LeS, LeL, lk, *]; done)) | (simp only [Fact, Bool.not_eq_true', Bool.not_eq_false', decide_eq_true_eq, decide_eq_false_iff_not] at *; refine leK_dd ?_; (simp [-List.getD_eq_getElem?_getD, LeS, LeL, lk, *]; done)) | (show (_ : Nat) ≤ _; omega)) <;> (try simp (disch := omega) only [*, ↓Ed, Eu, ↓reduceIte, reduceCtorEq, Nat.reduceAdd, Nat.reduceEqDiff, Nat.reduceLT, Nat.reduceLeDiff, Int.reduceToNat, Int.reduceEq, Int.reduceLT, Int.reduceLE, w64, st_nil]))
  all_goals (try simp only [Fact, Bool.not_eq_true', Bool.not_eq_false', decide_eq_true_eq, decide_eq_false_iff_not] at *)
  all_goals simp [mayP, *]
theorem p_rName (s : List UInt8) (hs : s.length ≤ 4611686018427387904) : CP Tryd.prog 43 [.str s] (.bool (nameP s)) := by
  refine ok_ligref1_Name _ _ (by simp) ?_
  simp only [c_ligref1_Name, ↓Ed, Eu, ↓reduceIte, reduceCtorEq, Nat.reduceAdd, Nat.reduceEqDiff, Nat.reduceLT, Nat.reduceLeDiff, Int.reduceToNat, Int.reduceEq, Int.reduceLT, Int.reduceLE, w64, st_nil]
  repeat' ((first | refine NewB_intro0 (fun b => ?_) | (refine NewB_intro (fun b hb => ?_); simp only [ln_cons2, ln_nil, and_true] at hb) | (with_reducible apply And.intro; (focus (first | omega | (simp only [Fact, Bool.not_eq_true', Bool.not_eq_false', decide_eq_true_eq, decide_eq_false_iff_not] at *; omega)))) | ((first | refine gW_sp ?_ | refine condW_sp ?_ | refine pickW_sp ?_); (try refine Sp_n ?_); (first | refine Sp_t (by assumption) ?_ | refine Sp_f (by assumption) ?_ | refine Sp_split (fun h => ?_) (fun h => ?_)) <;> (first | have h' := Fact_lt h | have h' := Fact_nlt h | have h' := Fact_le h | have h' := Fact_nle h | skip) <;> (try (exfalso; omega))) | refine TreeW_intro (by rfl) ?_ | refine TreeW_all ?_ | refine upQ_intro ?_ | refine Two_intro ?_ ?_ | (refine leK_lit ?_; (simp [-List.getD_eq_getElem?_getD, LeL, lk, *]; done)) | (refine leK_dd ?_; (simp [-List.getD_eq_getElem?_getD, LeS, LeL, lk, *]; done)) | (simp only [Fact, Bool.not_eq_true', Bool.not_eq_false', decide_eq_true_eq, decide_eq_false_iff_not] at *; refine leK_dd ?_; (simp [-List.getD_eq_getElem?_getD, LeS, LeL, lk, *]; done)) | (show (_ : Nat) ≤ _; omega)) <;> (try simp (disch := omega) only [*, ↓Ed, Eu, ↓reduceIte, reduceCtorEq, Nat.reduceAdd, Nat.reduceEqDiff, Nat.reduceLT, Nat.reduceLeDiff, Int.reduceToNat, Int.reduceEq, Int.reduceLT, Int.reduceLE, w64, st_nil]))
  case' refine_2.refine_2.right.refine_2.right.refine_2 =>
    refine wpx_loop (fun k : Nat => ⟨lk [(0, .str s), (3, .int .i64 k)], lk []⟩) (fun k => k ≤ s.length ∧ Fact (∀ j, j < k → okAt s j)) (fun k => s.length - k) 0 ⟨by omega, fun j h => by omega⟩ (Le_lit (by simp [LeL, lk])) ?_
    intro k ⟨h1, h2⟩
    have h97 : k = 0 → 97 ≤ (s.getD k 0).toNat ∧ (s.getD k 0).toNat ≤ 122 := fun e => by subst e; simp only [Fact, Bool.not_eq_true', Bool.not_eq_false', decide_eq_true_eq, decide_eq_false_iff_not] at *; exact ⟨by omega, by omega⟩
    simp only [↓Ed, Eu, ↓reduceIte, reduceCtorEq, Nat.reduceAdd, Nat.reduceEqDiff, Nat.reduceLT, Nat.reduceLeDiff, Int.reduceToNat, Int.reduceEq, Int.reduceLT, Int.reduceLE, w64, st_nil]
    repeat' ((first | refine NewB_intro0 (fun b => ?_) | (refine NewB_intro (fun b hb => ?_); simp only [ln_cons2, ln_nil, and_true] at hb) | (with_reducible apply And.intro; (focus (first | omega | (simp only [Fact, Bool.not_eq_true', Bool.not_eq_false', decide_eq_true_eq, decide_eq_false_iff_not] at *; omega)))) | ((first | refine gW_sp ?_ | refine condW_sp ?_ | refine pickW_sp ?_); (try refine Sp_n ?_); (first | refine Sp_t (by assumption) ?_ | refine Sp_f (by assumption) ?_ | refine Sp_split (fun h => ?_) (fun h => ?_)) <;> (first | have h' := Fact_lt h | have h' := Fact_nlt h | have h' := Fact_le h | have h' := Fact_nle h | skip) <;> (try (exfalso; omega))) | refine TreeW_intro (by rfl) ?_ | refine TreeW_all ?_ | refine upQ_intro ?_ | refine Two_intro ?_ ?_ | (refine leK_lit ?_; (simp [-List.getD_eq_getElem?_getD, LeL, lk, *]; done)) | (refine leK_dd ?_; (simp [-List.getD_eq_getElem?_getD, LeS, LeL, lk, *]; done)) | (simp only [Fact, Bool.not_eq_true', Bool.not_eq_false', decide_eq_true_eq, decide_eq_false_iff_not] at *; refine leK_dd ?_; (simp [-List.getD_eq_getElem?_getD, LeS, LeL, lk, *]; done)) | (show (_ : Nat) ≤ _; omega)) <;> (try simp (disch := omega) only [*, ↓Ed, Eu, ↓reduceIte, reduceCtorEq, Nat.reduceAdd, Nat.reduceEqDiff, Nat.reduceLT, Nat.reduceLeDiff, Int.reduceToNat, Int.reduceEq, Int.reduceLT, Int.reduceLE, w64, st_nil]))
  all_goals simp only [Fact, Bool.not_eq_true', Bool.not_eq_false', decide_eq_true_eq, decide_eq_false_iff_not] at *
  all_goals first
    | (refine Round_lit (k + 1) ⟨Le_lit (by simp [LeL, lk]), ⟨by omega, name_step h2 (by unfold okAt; omega)⟩, by omega⟩; done)
    | (refine name_bad (k := k) (by omega) (by unfold okAt; omega); done)
    | (rw [name_dec (k := k) (by omega) h2]; exact (decide_eq_true ⟨by omega, by omega⟩).symm)
    | (exact (nameP_f fun g => by have := g.2.1; have := g.2.2 0 (by omega); unfold okAt at this; omega).symm)
    | (refine (nameP_f fun g => ?_).symm; have h0 := List.length_pos_iff.2 g.1; omega)
    | skip
theorem p_MayEnd (p : List UInt8) (c : Int) (hs : p.length ≤ 4611686018427387904) : CP Tryd.prog 45 [.agg [.str p, .int .i64 c]] (.bool (mayP p c)) := by
  refine ok_ligref1_MayEnd _ _ (by simp) ?_
  simp only [c_ligref1_MayEnd, ↓Ed, Eu, ↓reduceIte, reduceCtorEq, Nat.reduceAdd, Nat.reduceEqDiff, Nat.reduceLT, Nat.reduceLeDiff, Int.reduceToNat, Int.reduceEq, Int.reduceLT, Int.reduceLE, w64, st_nil]
  repeat' ((first | refine CallO_pure (p_rName p hs) ?_ | refine NewB_intro0 (fun b => ?_) | (refine NewB_intro (fun b hb => ?_); simp only [ln_cons2, ln_nil, and_true] at hb) | (with_reducible apply And.intro; (focus (first | omega | (simp only [Fact, Bool.not_eq_true', Bool.not_eq_false', decide_eq_true_eq, decide_eq_false_iff_not] at *; omega)))) | ((first | refine gW_sp ?_ | refine condW_sp ?_ | refine pickW_sp ?_); (try refine Sp_n ?_); (first | refine Sp_t (by assumption) ?_ | refine Sp_f (by assumption) ?_ | refine Sp_split (fun h => ?_) (fun h => ?_)) <;> (first | have h' := Fact_lt h | have h' := Fact_nlt h | have h' := Fact_le h | have h' := Fact_nle h | skip) <;> (try (exfalso; omega))) | refine TreeW_intro (by rfl) ?_ | refine TreeW_all ?_ | refine upQ_intro ?_ | refine Two_intro ?_ ?_ | (refine leK_lit ?_; (simp [-List.getD_eq_getElem?_getD, LeL, lk, *]; done)) | (refine leK_dd ?_; (simp [-List.getD_eq_getElem?_getD, LeS, LeL, lk, *]; done)) | (simp only [Fact, Bool.not_eq_true', Bool.not_eq_false', decide_eq_true_eq, decide_eq_false_iff_not] at *; refine leK_dd ?_; (simp [-List.getD_eq_getElem?_getD, LeS, LeL, lk, *]; done)) | (show (_ : Nat) ≤ _; omega)) <;> (try simp (disch := omega) only [*, ↓Ed, Eu, ↓reduceIte, reduceCtorEq, Nat.reduceAdd, Nat.reduceEqDiff, Nat.reduceLT, Nat.reduceLeDiff, Int.reduceToNat, Int.reduceEq, Int.reduceLT, Int.reduceLE, w64, st_nil]))
  all_goals (try simp only [Fact, Bool.not_eq_true', Bool.not_eq_false', decide_eq_true_eq, decide_eq_false_iff_not] at *)
  all_goals simp [mayP, *]
end Go.Proofs.YtlefegihikpilaaDoor

/- plain laws: decimal numbers; names of what is kept -/
namespace Go.Proofs.YtlefegihikpilaaDoor
set_option linter.all false
open Go
theorem getD_app (a b : List UInt8) (i : Nat) (d : UInt8) (h : i < a.length) : (a ++ b).getD i d = a.getD i d := by simp [List.getD, List.getElem?_append_left h]
def isDig (c : UInt8) : Prop := 48 ≤ c.toNat ∧ c.toNat ≤ 57
instance (c : UInt8) : Decidable (isDig c) := by unfold isDig; exact inferInstance
def valD (s : List UInt8) : Nat := s.foldl (fun v c => 10 * v + (c.toNat - 48)) 0
def numQ (s : List UInt8) : Prop := (∀ c ∈ s, isDig c) ∧ ¬ (1 < s.length ∧ s.getD 0 0 = 48)
instance (s : List UInt8) : Decidable (numQ s) := by unfold numQ; exact inferInstance
/-- a text as a number, and the error -/
def numP (s : List UInt8) : Int × Int :=
  if s = [] then (0, 2) else if ¬ numQ s then (0, 3) else if 17 < s.length then (0, 4) else if 72057594037927935 < valD s then (0, 4) else ((valD s : Int), 0)
abbrev dig (n : Nat) : List UInt8 := Lib.decDigits n
theorem dig_lo {n : Nat} (h : n < 10) : dig n = [UInt8.ofNat (48 + n)] := by rw [dig, Lib.decDigits, dif_pos h]
theorem dig_hi {n : Nat} (h : ¬ n < 10) : dig n = dig (n / 10) ++ [UInt8.ofNat (48 + n % 10)] := by rw [dig, Lib.decDigits, dif_neg h]
theorem u8n {n : Nat} (h : n < 256) : (UInt8.ofNat n).toNat = n := by rw [UInt8.toNat_ofNat']; omega
theorem dig_all : ∀ (n : Nat), ∀ c ∈ dig n, isDig c := by
  intro n
  induction n using Nat.strongRecOn with
  | _ n ih =>
    intro c hc
    by_cases h : n < 10
    · rw [dig_lo h] at hc
      simp only [List.mem_singleton] at hc
      subst hc
      unfold isDig
      rw [u8n (by omega)]; omega
    · rw [dig_hi h] at hc
      rcases List.mem_append.1 hc with hc | hc
      · exact ih (n / 10) (by omega) c hc
      · simp only [List.mem_singleton] at hc
        subst hc
        unfold isDig
        rw [u8n (by omega)]; omega
theorem valD_snoc (s : List UInt8) (c : UInt8) : valD (s ++ [c]) = 10 * valD s + (c.toNat - 48) := by simp [valD, List.foldl_append]
theorem dig_val (n : Nat) : valD (dig n) = n := by
  induction n using Nat.strongRecOn with
  | _ n ih =>
    by_cases h : n < 10
    · rw [dig_lo h]
      simp only [valD, List.foldl_cons, List.foldl_nil]
      rw [u8n (by omega)]; omega
    · rw [dig_hi h, valD_snoc, ih (n / 10) (by omega), u8n (by omega)]; omega
theorem dig_ne (n : Nat) : dig n ≠ [] := by
  by_cases h : n < 10
  · rw [dig_lo h]; simp
  · rw [dig_hi h]; simp
theorem dig_len : ∀ (k n : Nat), n < 10 ^ (k + 1) → (dig n).length ≤ k + 1
  | 0, n, h => by rw [dig_lo (by omega)]; simp
  | k + 1, n, h => by
    by_cases hn : n < 10
    · rw [dig_lo hn]; simp
    · rw [dig_hi hn]
      have := dig_len k (n / 10) (by rw [Nat.pow_succ] at h; omega)
      simp only [List.length_append, List.length_cons, List.length_nil]; omega
theorem dig_head (n : Nat) (h : 0 < n) : (dig n).getD 0 0 ≠ 48 := by
  induction n using Nat.strongRecOn with
  | _ n ih =>
    by_cases hn : n < 10
    · rw [dig_lo hn]
      intro e
      have := congrArg UInt8.toNat e
      simp only [List.getD_cons_zero] at this
      rw [u8n (by omega)] at this
      have h48 : (48 : UInt8).toNat = 48 := rfl
      omega
    · rw [dig_hi hn]
      have h1 := List.length_pos_iff.2 (dig_ne (n / 10))
      have := ih (n / 10) (by omega) (by omega)
      rwa [getD_app _ _ _ _ h1]
theorem num_dig {n : Nat} (h : n ≤ 72057594037927935) : numP (dig n) = ((n : Int), 0) := by
  have h17 := dig_len 16 n (by omega)
  have hq : numQ (dig n) := by
    refine ⟨dig_all n, fun ⟨h1, h2⟩ => ?_⟩
    by_cases h0 : n = 0
    · subst h0; rw [dig_lo (by omega)] at h1; simp at h1
    · exact dig_head n (by omega) h2
  unfold numP
  rw [if_neg (dig_ne n), if_neg (by simpa using hq), if_neg (by omega), dig_val, if_neg (by omega)]
theorem dig_inj {a b : Nat} (h : dig a = dig b) : a = b := by rw [← dig_val a, ← dig_val b, h]
/-- A number's text is its digits. -/
theorem dig_of : ∀ (s : List UInt8), s ≠ [] → (∀ c ∈ s, isDig c) → s.getD 0 0 ≠ 48 → dig (valD s) = s ∧ 0 < valD s := by
  intro s
  induction h : s.length using Nat.strongRecOn generalizing s with
  | _ k ih =>
    intro hn hd h0
    obtain ⟨t, c, rfl⟩ : ∃ t c, s = t ++ [c] := ⟨s.dropLast, s.getLast hn, (List.dropLast_concat_getLast hn).symm⟩
    have hc : isDig c := hd c (by simp)
    unfold isDig at hc
    by_cases ht : t = []
    · subst ht
      simp only [List.nil_append, List.getD_cons_zero] at h0
      have : c.toNat ≠ 48 := fun e => h0 (UInt8.toNat_inj.1 e)
      have hv : valD ([] ++ [c]) = c.toNat - 48 := by simp [valD]
      rw [hv, dig_lo (by omega)]
      refine ⟨?_, by omega⟩
      simp only [List.nil_append, List.cons.injEq, and_true]
      apply UInt8.toNat_inj.1
      rw [u8n (by omega)]; omega
    · have h1 := List.length_pos_iff.2 ht
      obtain ⟨e1, e2⟩ := ih t.length (by rw [← h]; simp) t rfl ht (fun d hd' => hd d (by simp [hd'])) (by rwa [getD_app _ _ _ _ h1] at h0)
      rw [valD_snoc]
      refine ⟨?_, by omega⟩
      rw [dig_hi (by omega), show (10 * valD t + (c.toNat - 48)) / 10 = valD t by omega, e1]
      congr 2
      apply UInt8.toNat_inj.1
      rw [u8n (by omega)]; omega
theorem num_back {s : List UInt8} {n : Int} (h : numP s = (n, 0)) : ∃ m : Nat, n = m ∧ s = dig m ∧ m ≤ 72057594037927935 := by
  unfold numP at h
  split at h
  · simp at h
  split at h
  · simp at h
  split at h
  · simp at h
  split at h
  · simp at h
  rename_i h1 h2 h3 h4
  simp only [Prod.mk.injEq, and_true] at h
  refine ⟨valD s, h.symm, ?_, by omega⟩
  have hq : numQ s := by simpa using h2
  by_cases h0 : s.getD 0 0 = 48
  · match s, h1, hq, h0 with
    | [c], _, hq, h0 =>
      simp only [List.getD_cons_zero] at h0
      subst h0
      have : valD [48] = 0 := rfl
      rw [this, dig_lo (by omega)]
      rfl
    | c :: d :: t, _, hq, h0 => exact absurd ⟨by simp, h0⟩ hq.2
  · exact (dig_of s h1 hq.1 h0).1.symm
end Go.Proofs.YtlefegihikpilaaDoor

/- chapter 3: numbers, texts and names of what is kept: the program's and the document's -/
namespace Go.Proofs.YtlefegihikpilaaDoor
set_option linter.all false
open Go.RowKit
set_option maxRecDepth 100000
theorem max_big : 1000000 ≤ maxLen := by unfold maxLen; decide
abbrev bts (l : List UInt8) : List (List AV) := l.map byteEl
theorem trimS_nil (s : List UInt8) : Lib.trimS s digs = [] ↔ ∀ c ∈ s, isDig c := by
  have hd : ∀ c : UInt8, digs.contains c = true ↔ isDig c := by
    intro c
    have h : ∀ n : Fin 256, digs.contains (UInt8.ofNat n.val) = decide (48 ≤ n.val ∧ n.val ≤ 57) := by decide
    have := h ⟨c.toNat, c.toNat_lt⟩
    simp only [UInt8.ofNat_toNat] at this
    rw [this, decide_eq_true_eq]; rfl
  have hn : ∀ (p : UInt8 → Bool) (l : List UInt8), l.dropWhile p = [] ↔ ∀ x ∈ l, p x = true := by
    intro p l
    induction l with
    | nil => simp
    | cons x l ih =>
      rw [List.dropWhile_cons]
      cases h : p x with
      | true => simp [h, ih]
      | false => simp [h]
  have hh : ∀ (p : UInt8 → Bool) (l : List UInt8) (y : UInt8) (ys : List UInt8), l.dropWhile p = y :: ys → p y = false := by
    intro p l
    induction l with
    | nil => intro y ys h; simp at h
    | cons x l ih =>
      intro y ys h
      rw [List.dropWhile_cons] at h
      cases hx : p x with
      | true => rw [hx] at h; exact ih y ys (by simpa using h)
      | false => rw [hx] at h; simp at h; rw [← h.1]; exact hx
  unfold Lib.trimS Lib.trimLeftS Lib.trimRightS
  rw [hn]
  constructor
  · intro h c hc
    have h3 : s.reverse.dropWhile (digs.contains ·) = [] := by
      cases hd' : s.reverse.dropWhile (digs.contains ·) with
      | nil => rfl
      | cons y ys =>
        have h4 := hh _ _ _ _ hd'
        have h5 := h y (by rw [hd']; simp)
        rw [h5] at h4; cases h4
    rw [hn] at h3
    exact (hd c).1 (h3 c (by simpa using hc))
  · intro h c hc
    have hz : s.reverse.dropWhile (digs.contains ·) = [] := by
      rw [hn]
      intro x hx
      exact (hd x).2 (h x (by simpa using hx))
    rw [hz] at hc
    simp at hc
theorem valD_take {s : List UInt8} {k : Nat} (h : k < s.length) : valD (s.take (k + 1)) = 10 * valD (s.take k) + ((s.getD k 0).toNat - 48) := by
  rw [List.take_add_one, List.getElem?_eq_getElem h]
  simp only [Option.toList_some]
  rw [valD_snoc]
  simp [List.getD, List.getElem?_eq_getElem h]
theorem valD_le {s : List UInt8} (hd : ∀ c ∈ s, isDig c) : ∀ k, k ≤ s.length → valD (s.take k) + 1 ≤ 10 ^ k
  | 0, _ => by simp [valD]
  | k + 1, h => by
    have ih := valD_le hd k (by omega)
    rw [valD_take (by omega), Nat.pow_succ]
    have hk : k < s.length := by omega
    have : isDig (s.getD k 0) := by
      rw [List.getD, List.getElem?_eq_getElem hk]; exact hd _ (List.getElem_mem hk)
    unfold isDig at this
    omega
theorem u48 {c : UInt8} : ((c.toNat : Int) = 48) = (c = 48) := propext ⟨fun h => UInt8.toNat_inj.1 (by have : (48 : UInt8).toNat = 48 := rfl; omega), fun h => by rw [h]; rfl⟩
theorem dig_at {s : List UInt8} (hd : ∀ c ∈ s, isDig c) {k : Nat} (hk : k < s.length) : 48 ≤ (s.getD k 0).toNat ∧ (s.getD k 0).toNat ≤ 57 := by
  rw [List.getD, List.getElem?_eq_getElem hk]; exact hd _ (List.getElem_mem hk)
theorem wsub {n : Nat} (h : 48 ≤ n ∧ n ≤ 57) : IntKind.u8.wrap ((n : Int) - 48) = ((n - 48 : Nat) : Int) := by rw [IntKind.wrap_u8]; omega
theorem numP_form {s : List UInt8} (h0 : ¬ s = []) (h : ¬ numQ s) : numP s = (0, 3) := by unfold numP; rw [if_neg h0, if_pos h]
theorem numP_long {s : List UInt8} (hq : numQ s) (h : 17 < s.length) : numP s = (0, 4) := by
  unfold numP; rw [if_neg (fun e => by subst e; simp at h), if_neg (by simpa using hq), if_pos h]
theorem numP_big {s : List UInt8} (h0 : ¬ s = []) (hq : numQ s) (h : ¬ 17 < s.length) (hv : 72057594037927935 < valD s) : numP s = (0, 4) := by
  unfold numP; rw [if_neg h0, if_neg (by simpa using hq), if_neg h, if_pos hv]
theorem numP_ok {s : List UInt8} (h0 : ¬ s = []) (hq : numQ s) (h : ¬ 17 < s.length) (hv : ¬ 72057594037927935 < valD s) : numP s = ((valD s : Int), 0) := by
  unfold numP; rw [if_neg h0, if_neg (by simpa using hq), if_neg h, if_neg hv]
theorem p_Number (s : List UInt8) (hs : s.length ≤ 16000000) : CP Tryd.prog 97 [.str s] (.tup [.int .i64 (numP s).1, .int .i64 (numP s).2]) := by
  by_cases h0 : s = []
  · subst h0
    refine ok_path_Number _ _ (by simp) ?_
    simp only [c_path_Number, ↓Ed, Eu, ↓reduceIte, reduceCtorEq, Nat.reduceAdd, Nat.reduceEqDiff, Nat.reduceLT, Nat.reduceLeDiff, Int.reduceToNat, Int.reduceEq, Int.reduceLT, Int.reduceLE, w64, st_nil, List.length_append, Nat.reduceMul]
    repeat' ((first | refine NewB_intro0 (fun b => ?_) | (refine NewB_intro (fun b hb => ?_); simp only [ln_cons2, ln_nil, and_true] at hb) | (with_reducible apply And.intro; (focus (first | omega | (simp only [Fact, Bool.not_eq_true', Bool.not_eq_false', decide_eq_true_eq, decide_eq_false_iff_not] at *; omega)))) | ((first | refine gW_sp ?_ | refine condW_sp ?_ | refine pickW_sp ?_); (try refine Sp_n ?_); (first | refine Sp_t (by assumption) ?_ | refine Sp_f (by assumption) ?_ | refine Sp_split (fun h => ?_) (fun h => ?_)) <;> (first | have h' := Fact_lt h | have h' := Fact_nlt h | have h' := Fact_le h | have h' := Fact_nle h | skip) <;> (try (exfalso; omega))) | refine TreeW_intro (by rfl) ?_ | refine TreeW_all ?_ | refine upQ_intro ?_ | refine Two_intro ?_ ?_ | (refine leK_lit ?_; (simp [-List.getD_eq_getElem?_getD, LeL, lk, *]; done)) | (refine leK_dd ?_; (simp [-List.getD_eq_getElem?_getD, LeS, LeL, lk, *]; done)) | (simp only [Fact, Bool.not_eq_true', Bool.not_eq_false', decide_eq_true_eq, decide_eq_false_iff_not] at *; refine leK_dd ?_; (simp [-List.getD_eq_getElem?_getD, LeS, LeL, lk, *]; done)) | (show (_ : Nat) ≤ _; omega)) <;> (try simp (disch := omega) only [*, ↓Ed, Eu, ↓reduceIte, reduceCtorEq, Nat.reduceAdd, Nat.reduceEqDiff, Nat.reduceLT, Nat.reduceLeDiff, Int.reduceToNat, Int.reduceEq, Int.reduceLT, Int.reduceLE, w64, st_nil, List.length_append, Nat.reduceMul]))
    all_goals simp [numP]
  have ht := trimS_nil s
  rw [← List.length_eq_zero_iff] at ht
  have hl : ¬ s.length = 0 := fun e => h0 (List.length_eq_zero_iff.1 e)
  refine ok_path_Number _ _ (by simp) ?_
  simp only [c_path_Number, ↓Ed, Eu, ↓reduceIte, reduceCtorEq, Nat.reduceAdd, Nat.reduceEqDiff, Nat.reduceLT, Nat.reduceLeDiff, Int.reduceToNat, Int.reduceEq, Int.reduceLT, Int.reduceLE, w64, st_nil, List.length_append, Nat.reduceMul]
  repeat' ((first | refine CallO_pure (p_TrimD s (by omega)) ?_ | refine NewB_intro0 (fun b => ?_) | (refine NewB_intro (fun b hb => ?_); simp only [ln_cons2, ln_nil, and_true] at hb) | (with_reducible apply And.intro; (focus (first | omega | (simp only [Fact, Bool.not_eq_true', Bool.not_eq_false', decide_eq_true_eq, decide_eq_false_iff_not] at *; omega)))) | ((first | refine gW_sp ?_ | refine condW_sp ?_ | refine pickW_sp ?_); (try refine Sp_n ?_); (first | refine Sp_t (by assumption) ?_ | refine Sp_f (by assumption) ?_ | refine Sp_split (fun h => ?_) (fun h => ?_)) <;> (first | have h' := Fact_lt h | have h' := Fact_nlt h | have h' := Fact_le h | have h' := Fact_nle h | skip) <;> (try (exfalso; omega))) | refine TreeW_intro (by rfl) ?_ | refine TreeW_all ?_ | refine upQ_intro ?_ | refine Two_intro ?_ ?_ | (refine leK_lit ?_; (simp [-List.getD_eq_getElem?_getD, LeL, lk, *]; done)) | (refine leK_dd ?_; (simp [-List.getD_eq_getElem?_getD, LeS, LeL, lk, *]; done)) | (simp only [Fact, Bool.not_eq_true', Bool.not_eq_false', decide_eq_true_eq, decide_eq_false_iff_not] at *; refine leK_dd ?_; (simp [-List.getD_eq_getElem?_getD, LeS, LeL, lk, *]; done)) | (show (_ : Nat) ≤ _; omega)) <;> (try simp (disch := omega) only [*, ↓Ed, Eu, ↓reduceIte, reduceCtorEq, Nat.reduceAdd, Nat.reduceEqDiff, Nat.reduceLT, Nat.reduceLeDiff, Int.reduceToNat, Int.reduceEq, Int.reduceLT, Int.reduceLE, w64, st_nil, List.length_append, Nat.reduceMul]))
  all_goals (try simp only [Fact, Bool.not_eq_true', Bool.not_eq_false', decide_eq_true_eq, decide_eq_false_iff_not, u48] at *)
  case' refine_2.refine_1.refine_1.right.refine_2.refine_2 => have hq : numQ s := ⟨by assumption, fun g => by simp_all⟩
  case' refine_2.refine_1.refine_2.refine_2 => have hq : numQ s := ⟨by assumption, fun g => by omega⟩
  case' refine_2.refine_1.refine_1.right.refine_2.refine_2 | refine_2.refine_1.refine_2.refine_2 =>
    clear ht
    refine wpx_loop (fun k : Nat => ⟨lk [(0, .str s), (4, .int .i64 (valD (s.take k))), (25, .int .i64 s.length), (26, .int .i64 k)], lk []⟩) (fun k => k ≤ s.length) (fun k => s.length - k) 0 (by omega) (Le_lit (by simp [LeL, lk, valD])) ?_
    intro k h1
    have hv := valD_le hq.1 k h1
    have h17 : 10 ^ k ≤ 10 ^ 17 := Nat.pow_le_pow_right (by omega) (by omega)
    have hlt : valD (s.take k) < 100000000000000000 := by omega
    clear hv h17
    simp only [↓Ed, Eu, ↓reduceIte, reduceCtorEq, Nat.reduceAdd, Nat.reduceEqDiff, Nat.reduceLT, Nat.reduceLeDiff, Int.reduceToNat, Int.reduceEq, Int.reduceLT, Int.reduceLE, w64, st_nil, List.length_append, Nat.reduceMul]
    repeat' ((first | refine NewB_intro0 (fun b => ?_) | (refine NewB_intro (fun b hb => ?_); simp only [ln_cons2, ln_nil, and_true] at hb) | (with_reducible apply And.intro; (focus (first | omega | (simp only [Fact, Bool.not_eq_true', Bool.not_eq_false', decide_eq_true_eq, decide_eq_false_iff_not] at *; omega)))) | ((first | refine gW_sp ?_ | refine condW_sp ?_ | refine pickW_sp ?_); (try refine Sp_n ?_); (first | refine Sp_t (by assumption) ?_ | refine Sp_f (by assumption) ?_ | refine Sp_split (fun h => ?_) (fun h => ?_)) <;> (first | have h' := Fact_lt h | have h' := Fact_nlt h | have h' := Fact_le h | have h' := Fact_nle h | skip) <;> (try (exfalso; omega))) | refine TreeW_intro (by rfl) ?_ | refine TreeW_all ?_ | refine upQ_intro ?_ | refine Two_intro ?_ ?_ | (refine leK_lit ?_; (simp [-List.getD_eq_getElem?_getD, LeL, lk, *]; done)) | (refine leK_dd ?_; (simp [-List.getD_eq_getElem?_getD, LeS, LeL, lk, *]; done)) | (simp only [Fact, Bool.not_eq_true', Bool.not_eq_false', decide_eq_true_eq, decide_eq_false_iff_not] at *; refine leK_dd ?_; (simp [-List.getD_eq_getElem?_getD, LeS, LeL, lk, *]; done)) | (show (_ : Nat) ≤ _; omega)) <;> (try simp (disch := omega) only [*, ↓Ed, Eu, ↓reduceIte, reduceCtorEq, Nat.reduceAdd, Nat.reduceEqDiff, Nat.reduceLT, Nat.reduceLeDiff, Int.reduceToNat, Int.reduceEq, Int.reduceLT, Int.reduceLE, w64, st_nil, List.length_append, Nat.reduceMul]))
  all_goals (try simp only [Fact, Bool.not_eq_true', Bool.not_eq_false', decide_eq_true_eq, decide_eq_false_iff_not, u48] at *)
  all_goals first
    | (rw [numP_form h0 (fun g => g.2 ⟨by omega, by assumption⟩)]; exact ⟨rfl, rfl⟩)
    | (rw [numP_form h0 (fun g => absurd g.1 (by assumption))]; exact ⟨rfl, rfl⟩)
    | (have h3 : 17 < s.length := by omega
       have hq : numQ s := ⟨by assumption, fun g => by simp_all⟩
       rw [numP_long hq h3]; exact ⟨rfl, rfl⟩)
    | (exact absurd (by assumption) hl)
    | (obtain rfl : k = s.length := by omega
       rw [List.take_length] at *
       first
         | (rw [numP_big h0 hq (by omega) (by omega)]; exact ⟨rfl, rfl⟩)
         | (rw [numP_ok h0 hq (by omega) (by omega)]; exact ⟨rfl, rfl⟩))
    | (have hd := dig_at hq.1 (k := k) (by omega)
       simp only [wsub hd]
       refine Round_lit (k + 1) ⟨Le_lit ?_, by omega, by omega⟩
       rw [valD_take (by omega)]
       generalize (s.getD k 0).toNat = y at *
       simp [LeL, lk]
       rw [IntKind.wrap_i64, IntKind.wrap_i64]; omega)
end Go.Proofs.YtlefegihikpilaaDoor

/- plain laws: words, texts of ends, names of what is kept -/
namespace Go.Proofs.YtlefegihikpilaaDoor
set_option linter.all false
open Go
abbrev chn : List UInt8 := [99, 104, 97, 110, 110, 101, 108, 45]
abbrev prts : List UInt8 := [112, 111, 114, 116, 115]
abbrev chns : List UInt8 := [99, 104, 97, 110, 110, 101, 108, 115]
abbrev seqs : List UInt8 := [115, 101, 113, 117, 101, 110, 99, 101, 115]
def wordP (k : Int) : List UInt8 :=
  if k = 1 then [99, 111, 109, 109, 105, 116, 109, 101, 110, 116, 115] else if k = 2 then [114, 101, 99, 101, 105, 112, 116, 115] else if k = 3 then [97, 99, 107, 115] else if k = 4 then [110, 101, 120, 116, 83, 101, 113, 117, 101, 110, 99, 101, 83, 101, 110, 100] else if k = 5 then [110, 101, 120, 116, 83, 101, 113, 117, 101, 110, 99, 101, 82, 101, 99, 118] else if k = 6 then [110, 101, 120, 116, 83, 101, 113, 117, 101, 110, 99, 101, 65, 99, 107] else if k = 7 then [99, 104, 97, 110, 110, 101, 108, 69, 110, 100, 115] else []
theorem wordP_out {k : Int} (h : k < 1 ∨ 7 < k) : wordP k = [] := by
  unfold wordP
  repeat rw [if_neg (by omega)]
theorem wordP_in {k : Int} (h : 1 ≤ k ∧ k ≤ 7) : wordP k ≠ [] := by
  obtain rfl | rfl | rfl | rfl | rfl | rfl | rfl : k = 1 ∨ k = 2 ∨ k = 3 ∨ k = 4 ∨ k = 5 ∨ k = 6 ∨ k = 7 := by omega
  all_goals simp [wordP]
theorem wordP_inj {k j : Int} (h : 1 ≤ k ∧ k ≤ 7) (g : 1 ≤ j ∧ j ≤ 7) (e : wordP k = wordP j) : k = j := by
  obtain rfl | rfl | rfl | rfl | rfl | rfl | rfl : k = 1 ∨ k = 2 ∨ k = 3 ∨ k = 4 ∨ k = 5 ∨ k = 6 ∨ k = 7 := by omega
  all_goals
    obtain rfl | rfl | rfl | rfl | rfl | rfl | rfl : j = 1 ∨ j = 2 ∨ j = 3 ∨ j = 4 ∨ j = 5 ∨ j = 6 ∨ j = 7 := by omega
    all_goals first | rfl | (simp [wordP] at e)
theorem wordP_len (k : Int) : (wordP k).length ≤ 16 := by
  unfold wordP
  repeat' split
  all_goals decide
theorem wordP_no (k : Int) : 47 ∉ wordP k := by
  unfold wordP
  repeat' split
  all_goals decide
theorem itoa_dig {n : Int} (h : 0 ≤ n) : Lib.itoa n = dig n.toNat := by unfold Lib.itoa; rw [if_neg (by omega)]
noncomputable def textP (p : List UInt8) (c : Int) : List UInt8 := if mayP p c = true then p ++ [47] ++ chn ++ Lib.itoa c else []
def endOk (s : List UInt8) : Bool := Lib.hasPrefix s chn && decide ((numP (Lib.trimPrefix s chn)).2 = 0)
def endN (s : List UInt8) : Int := (numP (Lib.trimPrefix s chn)).1
noncomputable def endP (p s : List UInt8) : Bool := endOk s && mayP p (endN s)
noncomputable def parseP (s : List UInt8) : List UInt8 × Int × Int :=
  if endP (Lib.cut s [47]).1 (Lib.cut s [47]).2.1 = true then ((Lib.cut s [47]).1, endN (Lib.cut s [47]).2.1, 0) else ([], 0, 3)
def baseP (k : Int) (p : List UInt8) (c : Int) : List UInt8 := wordP k ++ [47] ++ prts ++ [47] ++ p ++ [47] ++ chns ++ [47] ++ chn ++ Lib.itoa c
noncomputable def ofP (k : Int) (p : List UInt8) (c q : Int) : List UInt8 :=
  if wordP k = [] ∨ ¬ mayP p c = true then [] else if 1 ≤ k ∧ k ≤ 3 then if 1 ≤ q ∧ q ≤ 1099511627776 then baseP k p c ++ [47] ++ seqs ++ [47] ++ Lib.itoa q else [] else if q = 0 then baseP k p c else []
theorem cut_le (s sep : List UInt8) : (Lib.cut s sep).1.length ≤ s.length ∧ (Lib.cut s sep).2.1.length ≤ s.length := by
  unfold Lib.cut; split <;> simp <;> omega
theorem mayP_t {p : List UInt8} {c : Int} (h : mayP p c = true) : p.length ≤ 12 ∧ 0 ≤ c ∧ c ≤ 999 ∧ nameQ p := by
  simp only [mayP, Bool.and_eq_true, decide_eq_true_eq, nameP_iff] at h
  exact ⟨h.1.1.2.1, h.1.2, h.2, h.1.1⟩
theorem dig_len3 {c : Int} (h : 0 ≤ c ∧ c ≤ 999) : (Lib.itoa c).length ≤ 3 := by rw [itoa_dig h.1]; exact dig_len 2 _ (by omega)
theorem dig_len13 {c : Int} (h : 0 ≤ c ∧ c ≤ 1099511627776) : (Lib.itoa c).length ≤ 13 := by rw [itoa_dig h.1]; exact dig_len 12 _ (by omega)
end Go.Proofs.YtlefegihikpilaaDoor

/- chapter 3: the program's texts -/
namespace Go.Proofs.YtlefegihikpilaaDoor
set_option linter.all false
open Go.RowKit
theorem p_Text (p : List UInt8) (c : Int) (hs : p.length ≤ 1000000) : CP Tryd.prog 24 [.agg [.str p, .int .i64 c]] (.str (textP p c)) := by
  have hm := max_big
  have ht : mayP p c = true → _ := mayP_t
  refine ok_path_Text _ _ (by simp) ?_
  simp only [c_path_Text, ↓Ed, Eu, ↓reduceIte, reduceCtorEq, Nat.reduceAdd, Nat.reduceEqDiff, Nat.reduceLT, Nat.reduceLeDiff, Int.reduceToNat, Int.reduceEq, Int.reduceLT, Int.reduceLE, w64, st_nil, List.length_append, Nat.reduceMul]
  repeat' ((first | refine CallO_pure (p_pMay p c (by omega)) ?_ | refine CallW_intro (p_Itoa c (by simp only [Fact, Bool.not_eq_true', Bool.not_eq_false', decide_eq_true_eq, decide_eq_false_iff_not] at *; have := ht (by assumption); omega)) ?_ | refine NewB_intro0 (fun b => ?_) | (refine NewB_intro (fun b hb => ?_); simp only [ln_cons2, ln_nil, and_true] at hb) | (with_reducible apply And.intro; (focus (first | omega | (simp only [Fact, Bool.not_eq_true', Bool.not_eq_false', decide_eq_true_eq, decide_eq_false_iff_not] at *; omega)))) | ((first | refine gW_sp ?_ | refine condW_sp ?_ | refine pickW_sp ?_); (try refine Sp_n ?_); (first | refine Sp_t (by assumption) ?_ | refine Sp_f (by assumption) ?_ | refine Sp_split (fun h => ?_) (fun h => ?_)) <;> (first | have h' := Fact_lt h | have h' := Fact_nlt h | have h' := Fact_le h | have h' := Fact_nle h | skip) <;> (try (exfalso; omega))) | refine TreeW_intro (by rfl) ?_ | refine TreeW_all ?_ | refine upQ_intro ?_ | refine Two_intro ?_ ?_ | (refine leK_lit ?_; (simp [-List.getD_eq_getElem?_getD, LeL, lk, *]; done)) | (refine leK_dd ?_; (simp [-List.getD_eq_getElem?_getD, LeS, LeL, lk, *]; done)) | (simp only [Fact, Bool.not_eq_true', Bool.not_eq_false', decide_eq_true_eq, decide_eq_false_iff_not] at *; refine leK_dd ?_; (simp [-List.getD_eq_getElem?_getD, LeS, LeL, lk, *]; done)) | (show (_ : Nat) ≤ _; omega)) <;> (try simp (disch := omega) only [*, ↓Ed, Eu, ↓reduceIte, reduceCtorEq, Nat.reduceAdd, Nat.reduceEqDiff, Nat.reduceLT, Nat.reduceLeDiff, Int.reduceToNat, Int.reduceEq, Int.reduceLT, Int.reduceLE, w64, st_nil, List.length_append, Nat.reduceMul]))
  all_goals (try simp only [Fact, Bool.not_eq_true', Bool.not_eq_false', decide_eq_true_eq, decide_eq_false_iff_not] at *)
  · have h1 := ht (by assumption)
    have h2 := dig_len3 ⟨h1.2.1, h1.2.2.1⟩
    exact ⟨by omega, by simp [textP, *]⟩
  · simp [textP, *]
theorem p_end (p s : List UInt8) (hp : p.length ≤ 1000000) (hs : s.length ≤ 1000000) : CP Tryd.prog 99 [.str p, .str s] (.tup [.agg [.str p, .int .i64 (endN s)], .bool (endP p s)]) := by
  have hm := max_big
  have hl := Lib.trimPrefix_le s chn
  simp only [chn] at hl
  refine ok_path_end _ _ (by simp) ?_
  simp only [c_path_end, ↓Ed, Eu, ↓reduceIte, reduceCtorEq, Nat.reduceAdd, Nat.reduceEqDiff, Nat.reduceLT, Nat.reduceLeDiff, Int.reduceToNat, Int.reduceEq, Int.reduceLT, Int.reduceLE, w64, st_nil, List.length_append, Nat.reduceMul]
  repeat' ((first | refine CallO_pure (p_CutPrefix _ _) ?_ | refine CallO_pure (p_Number _ (by omega)) ?_ | refine CallO_pure (p_Clone _ (by omega)) ?_ | refine CallO_pure (p_pMay _ _ (by omega)) ?_ | refine CallW_intro (p_pMay _ _ (by omega)) ?_ | refine NewB_intro0 (fun b => ?_) | (refine NewB_intro (fun b hb => ?_); simp only [ln_cons2, ln_nil, and_true] at hb) | (with_reducible apply And.intro; (focus (first | omega | (simp only [Fact, Bool.not_eq_true', Bool.not_eq_false', decide_eq_true_eq, decide_eq_false_iff_not] at *; omega)))) | ((first | refine gW_sp ?_ | refine condW_sp ?_ | refine pickW_sp ?_); (try refine Sp_n ?_); (first | refine Sp_t (by assumption) ?_ | refine Sp_f (by assumption) ?_ | refine Sp_split (fun h => ?_) (fun h => ?_)) <;> (first | have h' := Fact_lt h | have h' := Fact_nlt h | have h' := Fact_le h | have h' := Fact_nle h | skip) <;> (try (exfalso; omega))) | refine TreeW_intro (by rfl) ?_ | refine TreeW_all ?_ | refine upQ_intro ?_ | refine Two_intro ?_ ?_ | (refine leK_lit ?_; (simp [-List.getD_eq_getElem?_getD, LeL, lk, *]; done)) | (refine leK_dd ?_; (simp [-List.getD_eq_getElem?_getD, LeS, LeL, lk, *]; done)) | (simp only [Fact, Bool.not_eq_true', Bool.not_eq_false', decide_eq_true_eq, decide_eq_false_iff_not] at *; refine leK_dd ?_; (simp [-List.getD_eq_getElem?_getD, LeS, LeL, lk, *]; done)) | (show (_ : Nat) ≤ _; omega)) <;> (try simp (disch := omega) only [*, ↓Ed, Eu, ↓reduceIte, reduceCtorEq, Nat.reduceAdd, Nat.reduceEqDiff, Nat.reduceLT, Nat.reduceLeDiff, Int.reduceToNat, Int.reduceEq, Int.reduceLT, Int.reduceLE, w64, st_nil, List.length_append, Nat.reduceMul]))
  all_goals (try simp only [Fact, Bool.not_eq_true', Bool.not_eq_false', decide_eq_true_eq, decide_eq_false_iff_not] at *)
  all_goals simp [endN, endP, endOk, chn, *]
theorem p_Parse (s : List UInt8) (hs : s.length ≤ 1000000) : CP Tryd.prog 82 [.str s] (.tup [.agg [.str (parseP s).1, .int .i64 (parseP s).2.1], .int .i64 (parseP s).2.2]) := by
  have hm := max_big
  have hl := cut_le s [47]
  refine ok_path_Parse _ _ (by simp) ?_
  simp only [c_path_Parse, ↓Ed, Eu, ↓reduceIte, reduceCtorEq, Nat.reduceAdd, Nat.reduceEqDiff, Nat.reduceLT, Nat.reduceLeDiff, Int.reduceToNat, Int.reduceEq, Int.reduceLT, Int.reduceLE, w64, st_nil, List.length_append, Nat.reduceMul]
  repeat' ((first | refine CallO_pure (p_Cut _ _ (by omega)) ?_ | refine CallO_pure (p_end _ _ (by omega) (by omega)) ?_ | refine NewB_intro0 (fun b => ?_) | (refine NewB_intro (fun b hb => ?_); simp only [ln_cons2, ln_nil, and_true] at hb) | (with_reducible apply And.intro; (focus (first | omega | (simp only [Fact, Bool.not_eq_true', Bool.not_eq_false', decide_eq_true_eq, decide_eq_false_iff_not] at *; omega)))) | ((first | refine gW_sp ?_ | refine condW_sp ?_ | refine pickW_sp ?_); (try refine Sp_n ?_); (first | refine Sp_t (by assumption) ?_ | refine Sp_f (by assumption) ?_ | refine Sp_split (fun h => ?_) (fun h => ?_)) <;> (first | have h' := Fact_lt h | have h' := Fact_nlt h | have h' := Fact_le h | have h' := Fact_nle h | skip) <;> (try (exfalso; omega))) | refine TreeW_intro (by rfl) ?_ | refine TreeW_all ?_ | refine upQ_intro ?_ | refine Two_intro ?_ ?_ | (refine leK_lit ?_; (simp [-List.getD_eq_getElem?_getD, LeL, lk, *]; done)) | (refine leK_dd ?_; (simp [-List.getD_eq_getElem?_getD, LeS, LeL, lk, *]; done)) | (simp only [Fact, Bool.not_eq_true', Bool.not_eq_false', decide_eq_true_eq, decide_eq_false_iff_not] at *; refine leK_dd ?_; (simp [-List.getD_eq_getElem?_getD, LeS, LeL, lk, *]; done)) | (show (_ : Nat) ≤ _; omega)) <;> (try simp (disch := omega) only [*, ↓Ed, Eu, ↓reduceIte, reduceCtorEq, Nat.reduceAdd, Nat.reduceEqDiff, Nat.reduceLT, Nat.reduceLeDiff, Int.reduceToNat, Int.reduceEq, Int.reduceLT, Int.reduceLE, w64, st_nil, List.length_append, Nat.reduceMul]))
  all_goals (try simp only [Fact, Bool.not_eq_true', Bool.not_eq_false', decide_eq_true_eq, decide_eq_false_iff_not] at *)
  all_goals simp [parseP, *]
end Go.Proofs.YtlefegihikpilaaDoor

/- chapter 3: the document's texts -/
namespace Go.Proofs.YtlefegihikpilaaDoor
set_option linter.all false
open Go.RowKit
set_option maxRecDepth 100000
theorem tm10 (u : Nat) : (u : Int).tmod 10 = ((u % 10 : Nat) : Int) := rfl
theorem td10 (u : Nat) : (u : Int).tdiv 10 = ((u / 10 : Nat) : Int) := rfl
theorem w64b (c : UInt8) : IntKind.i64.wrap (c.toNat : Int) = c.toNat := w64 (by have := c.toNat_lt; omega)
theorem el_d (n : Nat) : [[AV.int .u8 (IntKind.u8.wrap (48 + ((n % 10 : Nat) : Int)))]] = bts [UInt8.ofNat (48 + n % 10)] := by
  simp only [bts, List.map_cons, List.map_nil, byteEl, List.cons.injEq, AV.int.injEq, and_true, true_and]
  rw [u8n (by omega), IntKind.wrap_u8]; omega
def digR (u : Nat) (out : List UInt8) : List UInt8 := if u = 0 then out else dig u ++ out
theorem digR_step {u : Nat} (out : List UInt8) (h : 0 < u) : digR (u / 10) (UInt8.ofNat (48 + u % 10) :: out) = digR u out := by
  unfold digR
  rw [if_neg (show ¬ u = 0 by omega)]
  by_cases hu : u < 10
  · rw [if_pos (by omega), dig_lo hu, show u % 10 = u by omega]; rfl
  · rw [if_neg (by omega), dig_hi hu]; simp
theorem digR_first (n : Nat) : digR (n / 10) [UInt8.ofNat (48 + n % 10)] = dig n := by
  by_cases h : n = 0
  · subst h; rw [dig_lo (by omega)]; rfl
  · rw [digR_step [] (by omega)]; unfold digR; rw [if_neg h, List.append_nil]
theorem p_Digits (n : Nat) (hn : n ≤ 72057594037927935) : CP Tryd.prog 18 [.int .i64 n] (.str (dig n)) := by
  have hm := max_big
  have hl := dig_len 16 n (by omega)
  refine ok_ligref1_Digits _ _ (by simp) ?_
  simp only [c_ligref1_Digits, ↓Ed, Eu, ↓reduceIte, reduceCtorEq, Nat.reduceAdd, Nat.reduceEqDiff, Nat.reduceLT, Nat.reduceLeDiff, Int.reduceToNat, Int.reduceEq, Int.reduceLT, Int.reduceLE, w64, st_nil, List.length_append, Nat.reduceMul, tm10, td10, List.length_map, w64b]
  repeat' ((first | refine NewB_intro0 (fun b => ?_) | (refine NewB_intro (fun b hb => ?_); simp only [ln_cons2, ln_nil, and_true] at hb) | (with_reducible apply And.intro; (focus (first | omega | (simp only [Fact, Bool.not_eq_true', Bool.not_eq_false', decide_eq_true_eq, decide_eq_false_iff_not] at *; omega)))) | ((first | refine gW_sp ?_ | refine condW_sp ?_ | refine pickW_sp ?_); (try refine Sp_n ?_); (first | refine Sp_t (by assumption) ?_ | refine Sp_f (by assumption) ?_ | refine Sp_split (fun h => ?_) (fun h => ?_)) <;> (first | have h' := Fact_lt h | have h' := Fact_nlt h | have h' := Fact_le h | have h' := Fact_nle h | skip) <;> (try (exfalso; omega))) | refine TreeW_intro (by rfl) ?_ | refine TreeW_all ?_ | refine upQ_intro ?_ | refine Two_intro ?_ ?_ | (refine leK_lit ?_; (simp [-List.getD_eq_getElem?_getD, LeL, lk, *]; done)) | (refine leK_dd ?_; (simp [-List.getD_eq_getElem?_getD, LeS, LeL, lk, *]; done)) | (simp only [Fact, Bool.not_eq_true', Bool.not_eq_false', decide_eq_true_eq, decide_eq_false_iff_not] at *; refine leK_dd ?_; (simp [-List.getD_eq_getElem?_getD, LeS, LeL, lk, *]; done)) | (show (_ : Nat) ≤ _; omega)) <;> (try simp (disch := omega) only [*, ↓Ed, Eu, ↓reduceIte, reduceCtorEq, Nat.reduceAdd, Nat.reduceEqDiff, Nat.reduceLT, Nat.reduceLeDiff, Int.reduceToNat, Int.reduceEq, Int.reduceLT, Int.reduceLE, w64, st_nil, List.length_append, Nat.reduceMul, tm10, td10, List.length_map, w64b]))
  simp (disch := omega) only [el_d, ↓Ed, Eu, ↓reduceIte, reduceCtorEq, Nat.reduceAdd, Nat.reduceEqDiff, Nat.reduceLT, Nat.reduceLeDiff, Int.reduceToNat, Int.reduceEq, Int.reduceLT, Int.reduceLE, w64, st_nil, List.length_append, Nat.reduceMul, tm10, td10, List.length_map, w64b]
  refine wpx_loop (fun x : List UInt8 × Nat => ⟨lk [(0, .int .i64 (x.2 : Int)), (3, .sl (some 5) 1 (bts x.1))], lk []⟩) (fun x => Fact (digR x.2 x.1 = dig n) ∧ x.1.length ≤ 17 ∧ x.2 ≤ 72057594037927935) (fun x => x.2) ([UInt8.ofNat (48 + n % 10)], n / 10) ⟨digR_first n, by simp, by simp only; omega⟩ (Le_lit (by simp [LeL, lk])) ?_
  rintro ⟨out, u⟩ ⟨h1, h2, h3⟩
  simp only at h1 h2 h3
  simp only [↓Ed, Eu, ↓reduceIte, reduceCtorEq, Nat.reduceAdd, Nat.reduceEqDiff, Nat.reduceLT, Nat.reduceLeDiff, Int.reduceToNat, Int.reduceEq, Int.reduceLT, Int.reduceLE, w64, st_nil, List.length_append, Nat.reduceMul, tm10, td10, List.length_map, w64b]
  repeat' ((first | refine NewB_intro0 (fun b => ?_) | (refine NewB_intro (fun b hb => ?_); simp only [ln_cons2, ln_nil, and_true] at hb) | (with_reducible apply And.intro; (focus (first | omega | (simp only [Fact, Bool.not_eq_true', Bool.not_eq_false', decide_eq_true_eq, decide_eq_false_iff_not] at *; omega)))) | ((first | refine gW_sp ?_ | refine condW_sp ?_ | refine pickW_sp ?_); (try refine Sp_n ?_); (first | refine Sp_t (by assumption) ?_ | refine Sp_f (by assumption) ?_ | refine Sp_split (fun h => ?_) (fun h => ?_)) <;> (first | have h' := Fact_lt h | have h' := Fact_nlt h | have h' := Fact_le h | have h' := Fact_nle h | skip) <;> (try (exfalso; omega))) | refine TreeW_intro (by rfl) ?_ | refine TreeW_all ?_ | refine upQ_intro ?_ | refine Two_intro ?_ ?_ | (refine leK_lit ?_; (simp [-List.getD_eq_getElem?_getD, LeL, lk, *]; done)) | (refine leK_dd ?_; (simp [-List.getD_eq_getElem?_getD, LeS, LeL, lk, *]; done)) | (simp only [Fact, Bool.not_eq_true', Bool.not_eq_false', decide_eq_true_eq, decide_eq_false_iff_not] at *; refine leK_dd ?_; (simp [-List.getD_eq_getElem?_getD, LeS, LeL, lk, *]; done)) | (show (_ : Nat) ≤ _; omega)) <;> (try simp (disch := omega) only [*, ↓Ed, Eu, ↓reduceIte, reduceCtorEq, Nat.reduceAdd, Nat.reduceEqDiff, Nat.reduceLT, Nat.reduceLeDiff, Int.reduceToNat, Int.reduceEq, Int.reduceLT, Int.reduceLE, w64, st_nil, List.length_append, Nat.reduceMul, tm10, td10, List.length_map, w64b]))
  all_goals (try simp only [Fact, Bool.not_eq_true', Bool.not_eq_false', decide_eq_true_eq, decide_eq_false_iff_not] at *)
  · have hl2 : out.length + 1 ≤ 17 := by
      rw [← h1] at hl
      unfold digR at hl
      rw [if_neg (by omega)] at hl
      have := List.length_pos_iff.2 (dig_ne u)
      simp only [List.length_append] at hl; omega
    rw [el_d, ← List.map_append]
    refine Round_lit (UInt8.ofNat (48 + u % 10) :: out, u / 10) ⟨Le_lit (by simp [LeL, lk]), ⟨(digR_step out (by omega)).trans h1, by simp only [List.length_cons]; omega, by simp only; omega⟩, by simp only; omega⟩
  · obtain rfl : u = 0 := by omega
    exact h1
theorem all_dig {s : List UInt8} {k : Nat} (hk : s.length ≤ k) (h : ∀ j, j < k → isDig (s.getD j 0)) : ∀ c ∈ s, isDig c := by
  intro c hc
  obtain ⟨i, hi, rfl⟩ := List.getElem_of_mem hc
  have := h i (by omega)
  rwa [List.getD, List.getElem?_eq_getElem hi] at this
theorem num_bad {s : List UInt8} {k : Nat} (hk : k < s.length) (h : ¬ isDig (s.getD k 0)) : ¬ numQ s := fun g => by
  refine h ?_
  rw [List.getD, List.getElem?_eq_getElem hk]
  exact g.1 _ (List.getElem_mem hk)
end Go.Proofs.YtlefegihikpilaaDoor

/- chapter 3: the document's ends and names -/
namespace Go.Proofs.YtlefegihikpilaaDoor
set_option linter.all false
open Go.RowKit
set_option maxRecDepth 100000
theorem byn (c : UInt8) : ((c.toNat : Int) = 47) = (c = 47) := propext ⟨fun h => UInt8.toNat_inj.1 (by have : (47 : UInt8).toNat = 47 := rfl; omega), fun h => by rw [h]; rfl⟩
theorem p_DigI (c : Int) (h : 0 ≤ c ∧ c ≤ 72057594037927935) : CP Tryd.prog 18 [.int .i64 c] (.str (Lib.itoa c)) := by
  rw [itoa_dig h.1]
  have e : c = (c.toNat : Int) := by omega
  have := p_Digits c.toNat (by omega)
  rwa [← e] at this
theorem p_EndText (p : List UInt8) (c : Int) (hs : p.length ≤ 1000000) : CP Tryd.prog 26 [.agg [.str p, .int .i64 c]] (.str (textP p c)) := by
  have hm := max_big
  have ht : mayP p c = true → _ := mayP_t
  refine ok_ligref1_EndText _ _ (by simp) ?_
  simp only [c_ligref1_EndText, ↓Ed, Eu, ↓reduceIte, reduceCtorEq, Nat.reduceAdd, Nat.reduceEqDiff, Nat.reduceLT, Nat.reduceLeDiff, Int.reduceToNat, Int.reduceEq, Int.reduceLT, Int.reduceLE, w64, st_nil, List.length_append, Nat.reduceMul, List.length_map, w64b, byn]
  repeat' ((first | refine CallO_pure (p_MayEnd p c (by omega)) ?_ | refine CallW_intro (p_DigI c (by simp only [Fact, Bool.not_eq_true', Bool.not_eq_false', decide_eq_true_eq, decide_eq_false_iff_not] at *; have := ht (by assumption); omega)) ?_ | refine NewB_intro0 (fun b => ?_) | (refine NewB_intro (fun b hb => ?_); simp only [ln_cons2, ln_nil, and_true] at hb) | (with_reducible apply And.intro; (focus (first | omega | (simp only [Fact, Bool.not_eq_true', Bool.not_eq_false', decide_eq_true_eq, decide_eq_false_iff_not] at *; omega)))) | ((first | refine gW_sp ?_ | refine condW_sp ?_ | refine pickW_sp ?_); (try refine Sp_n ?_); (first | refine Sp_t (by assumption) ?_ | refine Sp_f (by assumption) ?_ | refine Sp_split (fun h => ?_) (fun h => ?_)) <;> (first | have h' := Fact_lt h | have h' := Fact_nlt h | have h' := Fact_le h | have h' := Fact_nle h | skip) <;> (try (exfalso; omega))) | refine TreeW_intro (by rfl) ?_ | refine TreeW_all ?_ | refine upQ_intro ?_ | refine Two_intro ?_ ?_ | (refine leK_lit ?_; (simp [-List.getD_eq_getElem?_getD, LeL, lk, *]; done)) | (refine leK_dd ?_; (simp [-List.getD_eq_getElem?_getD, LeS, LeL, lk, *]; done)) | (simp only [Fact, Bool.not_eq_true', Bool.not_eq_false', decide_eq_true_eq, decide_eq_false_iff_not] at *; refine leK_dd ?_; (simp [-List.getD_eq_getElem?_getD, LeS, LeL, lk, *]; done)) | (show (_ : Nat) ≤ _; omega)) <;> (try simp (disch := omega) only [*, ↓Ed, Eu, ↓reduceIte, reduceCtorEq, Nat.reduceAdd, Nat.reduceEqDiff, Nat.reduceLT, Nat.reduceLeDiff, Int.reduceToNat, Int.reduceEq, Int.reduceLT, Int.reduceLE, w64, st_nil, List.length_append, Nat.reduceMul, List.length_map, w64b, byn]))
  all_goals (try simp only [Fact, Bool.not_eq_true', Bool.not_eq_false', decide_eq_true_eq, decide_eq_false_iff_not] at *)
  · have h1 := ht (by assumption)
    have h2 := dig_len3 ⟨h1.2.1, h1.2.2.1⟩
    exact ⟨by omega, by simp [textP, *]⟩
  · simp [textP, *]
end Go.Proofs.YtlefegihikpilaaDoor

/- chapter 3: the chapter's examples -/
namespace Go.Proofs.YtlefegihikpilaaDoor
set_option linter.all false
open Go.RowKit
set_option maxRecDepth 100000
abbrev trf : List UInt8 := [116, 114, 97, 110, 115, 102, 101, 114]
theorem mayP_trf : mayP trf 7 = true := by
  have h : nameQ trf := by unfold nameQ okAt; decide
  simp [mayP, nameP_iff.2 h]
theorem itoa7 : Lib.itoa 7 = [55] := by rw [itoa_dig (by omega)]; exact dig_lo (by decide)
theorem itoa12 : Lib.itoa 12 = [49, 50] := by rw [itoa_dig (by omega), show (12 : Int).toNat = 12 by rfl, dig_hi (by decide), dig_lo (by decide)]; rfl
theorem text_trf : textP [116, 114, 97, 110, 115, 102, 101, 114] 7 = [116, 114, 97, 110, 115, 102, 101, 114, 47, 99, 104, 97, 110, 110, 101, 108, 45, 55] := by
  unfold textP
  rw [if_pos mayP_trf, itoa7]; rfl
theorem num007 : numP [48, 48, 55] = (0, 3) := by decide
theorem parse_trf : parseP [116, 114, 97, 110, 115, 102, 101, 114, 47, 99, 104, 97, 110, 110, 101, 108, 45, 55] = ([116, 114, 97, 110, 115, 102, 101, 114], 7, 0) := by
  have h1 : Lib.cut [116, 114, 97, 110, 115, 102, 101, 114, 47, 99, 104, 97, 110, 110, 101, 108, 45, 55] [47] = ([116, 114, 97, 110, 115, 102, 101, 114], [99, 104, 97, 110, 110, 101, 108, 45, 55], true) := by decide
  have h2 : endN [99, 104, 97, 110, 110, 101, 108, 45, 55] = 7 := by decide
  have h3 : endOk [99, 104, 97, 110, 110, 101, 108, 45, 55] = true := by decide
  unfold parseP
  simp only [h1, endP, h2, h3, mayP_trf, Bool.and_self, if_true]
theorem of_trf : ofP 2 [116, 114, 97, 110, 115, 102, 101, 114] 7 12 = [114, 101, 99, 101, 105, 112, 116, 115, 47, 112, 111, 114, 116, 115, 47, 116, 114, 97, 110, 115, 102, 101, 114, 47, 99, 104, 97, 110, 110, 101, 108, 115, 47, 99, 104, 97, 110, 110, 101, 108, 45, 55, 47, 115, 101, 113, 117, 101, 110, 99, 101, 115, 47, 49, 50] := by
  unfold ofP
  rw [if_neg (by rw [show mayP _ _ = true from mayP_trf]; simp [wordP]), if_pos (by omega), if_pos (by omega)]
  unfold baseP
  rw [itoa7, itoa12]
  rfl
end Go.Proofs.YtlefegihikpilaaDoor
