/- library functions that chapter 3 calls -/
import Derived.Test.YtcgmheacdgcgiaaDoorCode
import Derived.Test.YtcgmheacdgcgiaaDoorMs
import Derived.Test.YtcgmheacdgcgiaaDoorShelf
import Derived.Shelf.Strings.SlTrimAscii
import Derived.WalkSmall
namespace Go.Proofs.YtcgmheacdgcgiaaDoor
set_option linter.all false
open Go.RowKit
set_option maxRecDepth 100000
theorem sz_str (l : List UInt8) : (⟨l.toArray⟩ : ByteArray).size = l.length := by simp [ByteArray.size]
theorem below_grow {W : World} {n : Nat} {os : Array Obj} : Below W.heap.size W (Sort.grow (W.drewN n) os) :=
  ⟨rfl, rfl, rfl, by simp [Sort.grow, World.drewN], fun k hk => by simp [Sort.grow, World.drewN, Array.getElem?_append, hk]⟩
theorem maxLen_cell {W : World} {U : Nat → Nat → Prop} (h : Glob W U) : ∃ m, W.cell? ⟨0, 0, none⟩ = some (.int .i64 m) := by
  obtain ⟨⟨cs, ty, fr, e, m, hm⟩, _⟩ := h (0, fun cs => ∃ m, cs[0]? = some (.int .i64 m)) (by simp [globTabs])
  exact ⟨m, by simp [World.cell?, e, hm]⟩
theorem pow_tab {W : World} {U : Nat → Nat → Prop} (h : Glob W U) : Lib.TabIs Tryd.prog W "internal/strconv.uint64pow10" .u64 Lib.pow10Tab := by
  obtain ⟨⟨cs, ty, fr, e, rfl⟩, _⟩ := h (3, fun cs => cs = (Lib.pow10Tab.map fun z => Value.int .u64 z).toArray) (by simp [globTabs])
  have hg : Tryd.prog.globalNamed "internal/strconv.uint64pow10" = some 3 := by kernel_rfl
  simp only [Lib.TabIs, World.var?, hg, Option.bind_some, e]
theorem p_Itoa (n : Int) (h : -9223372036854775808 ≤ n ∧ n ≤ 9223372036854775807) : CP Tryd.prog 28 [.int .i64 n] (.str (Lib.itoa n)) :=
  CP_libG (vs := [.int .i64 n]) (v := .string ⟨(Lib.itoa n).toArray⟩) rfl (by simp) rfl fun W U hG =>
    (Tryd.strconv_Itoa n h.1 h.2 W (pow_tab hG)).mono fun e w' ⟨h1, k, os, h2⟩ => ⟨h1, h2 ▸ below_grow⟩
theorem p_CutPrefix (s p : List UInt8) : CP Tryd.prog 44 [.str s, .str p] (.tup [.str (Lib.trimPrefix s p), .bool (Lib.hasPrefix s p)]) :=
  CP_lib (vs := [.string ⟨s.toArray⟩, .string ⟨p.toArray⟩]) (v := .tuple #[.string ⟨(Lib.trimPrefix s p).toArray⟩, .bool (Lib.hasPrefix s p)]) rfl (by simp) rfl fun W =>
    (Tryd.strings_CutPrefix ⟨s.toArray⟩ ⟨p.toArray⟩ W).mono fun e w' ⟨h1, h2⟩ => ⟨h1, h2 ▸ Below.refl _ _⟩
theorem p_Cut (s p : List UInt8) (hs : s.length ≤ 1000000) : CP Tryd.prog 30 [.str s, .str p] (.tup [.str (Lib.cut s p).1, .str (Lib.cut s p).2.1, .bool (Lib.cut s p).2.2]) :=
  CP_libG (vs := [.string ⟨s.toArray⟩, .string ⟨p.toArray⟩]) (v := .tuple #[.string ⟨(Lib.cut s p).1.toArray⟩, .string ⟨(Lib.cut s p).2.1.toArray⟩, .bool (Lib.cut s p).2.2]) rfl (by simp) rfl fun W U hG => by
    obtain ⟨m, hm⟩ := maxLen_cell hG
    exact (Tryd.strings_Cut ⟨s.toArray⟩ ⟨p.toArray⟩ m W (by rw [sz_str]; omega) hm).mono fun e w' ⟨h1, n, h2⟩ => ⟨h1, h2 ▸ below_drewN (Below.refl _ _) n⟩
abbrev digs : List UInt8 := [48, 49, 50, 51, 52, 53, 54, 55, 56, 57]
theorem p_TrimD (s : List UInt8) (hs : s.length ≤ 1000000) : CP Tryd.prog 26 [.str s, .str digs] (.str (Lib.trimS s digs)) :=
  CP_lib (vs := [.string ⟨s.toArray⟩, .string ⟨digs.toArray⟩]) (v := .string ⟨(Lib.trimS s digs).toArray⟩) rfl (by simp) rfl fun W =>
    (Any.strings_Trim_laid Tryd.lays160 (by kernel_rfl) ⟨s.toArray⟩ ⟨digs.toArray⟩ W (by rw [sz_str]; omega) (by decide) (ascii_of_all (by decide))).mono fun e w' ⟨g1, g2⟩ => ⟨g1, g2⟩
theorem p_sliteClone (s : List UInt8) (hs : s.length ≤ 281474976710656) : CP Tryd.prog 54 [.str s] (.str s) :=
  CP_lib (vs := [.string ⟨s.toArray⟩]) (v := .string ⟨s.toArray⟩) rfl (by simp) rfl fun W => Tryd.stringslite_Clone _ W (by rw [sz_str]; exact hs)
theorem p_Clone (s : List UInt8) (hs : s.length ≤ 281474976710656) : CP Tryd.prog 45 [.str s] (.str s) := by
  refine ok_strings_Clone _ _ (by simp) ?_
  simp only [c_strings_Clone, ↓Ed, Eu, ↓reduceIte, reduceCtorEq, Nat.reduceAdd, Nat.reduceEqDiff, Nat.reduceLT, Nat.reduceLeDiff, Int.reduceToNat, Int.reduceEq, Int.reduceLT, Int.reduceLE]
  repeat' (first | (refine CallO_pure (p_sliteClone _ (by omega)) ?_; simp (disch := omega) only [*, ↓Ed, Eu, ↓reduceIte, reduceCtorEq, Nat.reduceAdd, Nat.reduceEqDiff, Nat.reduceLT, Nat.reduceLeDiff, Int.reduceToNat, Int.reduceEq, Int.reduceLT, Int.reduceLE]) | (refine NewB_intro0 (fun b => ?_); simp only [↓Ed, Eu, ↓reduceIte, reduceCtorEq, Nat.reduceAdd, Nat.reduceEqDiff, Nat.reduceLT, Nat.reduceLeDiff, Int.reduceToNat, Int.reduceEq, Int.reduceLT, Int.reduceLE]) | (refine NewB_intro (fun b hb => ?_); simp only [ln_cons2, ln_nil, and_true] at hb; simp (disch := omega) only [*, ↓Ed, Eu, ↓reduceIte, reduceCtorEq, Nat.reduceAdd, Nat.reduceEqDiff, Nat.reduceLT, Nat.reduceLeDiff, Int.reduceToNat, Int.reduceEq, Int.reduceLT, Int.reduceLE]) | (with_reducible apply And.intro; (focus (first | omega | (simp only [Fact, Bool.not_eq_true', Bool.not_eq_false', decide_eq_true_eq, decide_eq_false_iff_not] at *; omega))); (try simp (disch := omega) only [*, ↓Ed, Eu, ↓reduceIte, reduceCtorEq, Nat.reduceAdd, Nat.reduceEqDiff, Nat.reduceLT, Nat.reduceLeDiff, Int.reduceToNat, Int.reduceEq, Int.reduceLT, Int.reduceLE])) | ((first | refine gW_sp ?_ | refine condW_sp ?_ | refine pickW_sp ?_); (try refine Sp_n ?_); (first | refine Sp_t (by assumption) ?_ | refine Sp_f (by assumption) ?_ | refine Sp_split (fun h => ?_) (fun h => ?_)) <;> (first | have h' := Fact_lt h | have h' := Fact_nlt h | have h' := Fact_le h | have h' := Fact_nle h | skip) <;> (first | (exfalso; omega) | simp (disch := omega) only [*, ↓Ed, Eu, ↓reduceIte, reduceCtorEq, Nat.reduceAdd, Nat.reduceEqDiff, Nat.reduceLT, Nat.reduceLeDiff, Int.reduceToNat, Int.reduceEq, Int.reduceLT, Int.reduceLE])) | (show (_ : Nat) ≤ _; omega))
/-- The pieces between slashes. -/
def pieces (s : List UInt8) : List (List UInt8) := Lib.splitK [47] 0 (Lib.countB ⟨s.toArray⟩ ⟨#[47]⟩) s
theorem p_Split (s : List UInt8) (hs : s.length ≤ 1000000) : CP Tryd.prog 32 [.str s, .str [47]] (.sl none 1 ((pieces s).map fun p => [AV.str p])) := by
  intro W U us hG hl hu
  obtain ⟨m, hm⟩ := maxLen_cell hG
  have he : us = [.string ⟨s.toArray⟩, .string ⟨#[47]⟩] := by
    match us, hl with
    | [a, b], _ =>
      have h1 := (hu 0 a _ rfl rfl).str_inv
      have h2 := (hu 1 b _ rfl rfl).str_inv
      rw [h1, h2]
  subst he
  refine (Tryd.strings_Split ⟨s.toArray⟩ ⟨#[47]⟩ m W (by rw [sz_str]; omega) hm (by decide)).mono ?_
  rintro e W' ⟨rfl, rfl⟩
  have hd := Lib.splitB_data ⟨#[47]⟩ 0 (Lib.countB ⟨s.toArray⟩ ⟨#[47]⟩) ⟨s.toArray⟩
  have hn := Lib.splitB_all ⟨#[47]⟩ (by decide) 0 (Lib.countB ⟨s.toArray⟩ ⟨#[47]⟩) ⟨s.toArray⟩ rfl
  have hle := Lib.countB_le ⟨#[47]⟩ (by decide) s.length ⟨s.toArray⟩ (by rw [sz_str]; exact Nat.le_refl _)
  rw [sz_str] at hle
  have hp : pieces s = (Lib.splitB ⟨#[47]⟩ 0 (Lib.countB ⟨s.toArray⟩ ⟨#[47]⟩) ⟨s.toArray⟩).map (·.data.toList) := hd.symm
  generalize hB : Lib.splitB ⟨#[47]⟩ 0 (Lib.countB ⟨s.toArray⟩ ⟨#[47]⟩) ⟨s.toArray⟩ = B at hn hp
  generalize hc : Lib.countB ⟨s.toArray⟩ ⟨#[47]⟩ = c at hn hle
  have hE := Ext.alloc W U (.cells (B.map Value.string).toArray 9) (fun _ => False)
  refine ⟨_, _, rfl, ?_, trivial, hE⟩
  rw [hp]
  have hlen : c + 1 = ((B.map (·.data.toList)).map fun p => [AV.str p]).length := by simp [hn]
  rw [hlen]
  refine .sl _ _ none _ W.heap.size 0 1 (fun i _ => (B.map Value.string).getD i undef) (Nat.le_refl _) ?_ (fun _ => rfl) (fun e he => ?_) (fun i j hi hj => ?_) (fun i e j x he hx => ?_)
  · rw [← hlen]; unfold maxLen; omega
  · simp only [List.map_map, List.mem_map, Function.comp] at he
    obtain ⟨a, _, rfl⟩ := he
    rfl
  · have hi' : i < B.length := by simpa using hi
    obtain rfl : j = 0 := by omega
    refine ⟨?_, ?_, by simp⟩
    · have e : (W.alloc (.cells (B.map Value.string).toArray 9)).heap[W.heap.size]? = some (.cells (B.map Value.string).toArray 9) := by simp only [World.alloc, Array.getElem?_push_size]
      have e2 : 0 + i * 1 + 0 = i := by omega
      rw [e2]
      simp only [World.cell?, e]
      simp [hi']
    · simp [hi', Value.oneCell']
  · simp only [List.map_map, List.getElem?_map, Option.map_eq_some_iff, Function.comp] at he
    obtain ⟨a, ha, rfl⟩ := he
    cases j with
    | zero =>
      simp only [List.getElem?_cons_zero, Option.some.injEq] at hx
      subst hx
      have : (B.map Value.string).getD i undef = .string a := by simp [ha]
      show VR _ _ ((B.map Value.string).getD i undef) _
      rw [this]
      exact .str _
    | succ j => simp at hx
end Go.Proofs.YtcgmheacdgcgiaaDoor
