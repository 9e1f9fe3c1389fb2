/- library functions: strings.Clone -/
import Derived.Test.YtedcagoilpaafaaCode
import Derived.Test.YtedcagoilpaafaaMs
import Derived.Test.YtedcagoilpaafaaShelf
namespace Go.Proofs.Ytedcagoilpaafaa
set_option linter.all false
set_option maxRecDepth 100000
theorem sz_str (l : List UInt8) : (⟨l.toArray⟩ : ByteArray).size = l.length := by simp [ByteArray.size]
theorem p_sliteClone (s : List UInt8) (hs : s.length ≤ 281474976710656) : CP Try.prog 42 [.str s] (.str s) :=
  CP_lib (vs := [.string ⟨s.toArray⟩]) (v := .string ⟨s.toArray⟩) rfl (by simp) rfl fun W => Try.stringslite_Clone _ W (by rw [sz_str]; exact hs)
theorem p_Clone (s : List UInt8) (hs : s.length ≤ 281474976710656) : CP Try.prog 36 [.str s] (.str s) := by
  refine ok_strings_Clone _ _ (by simp) ?_
  simp only [c_strings_Clone, ↓Ed, Eu, ↓reduceIte, reduceCtorEq, Nat.reduceAdd, Nat.reduceEqDiff, Nat.reduceLT, Nat.reduceLeDiff, Int.reduceToNat, Int.reduceEq, Int.reduceLT, Int.reduceLE, w64]
  repeat' (first | (refine CallO_pure (p_sliteClone _ (by omega)) ?_; simp (disch := omega) only [*, ↓Ed, Eu, ↓reduceIte, reduceCtorEq, Nat.reduceAdd, Nat.reduceEqDiff, Nat.reduceLT, Nat.reduceLeDiff, Int.reduceToNat, Int.reduceEq, Int.reduceLT, Int.reduceLE, w64]) | (refine NewB_intro0 (fun b => ?_); simp only [↓Ed, Eu, ↓reduceIte, reduceCtorEq, Nat.reduceAdd, Nat.reduceEqDiff, Nat.reduceLT, Nat.reduceLeDiff, Int.reduceToNat, Int.reduceEq, Int.reduceLT, Int.reduceLE, w64]) | (refine NewB_intro (fun b hb => ?_); simp only [ln_cons2, ln_nil, and_true] at hb; simp (disch := omega) only [*, ↓Ed, Eu, ↓reduceIte, reduceCtorEq, Nat.reduceAdd, Nat.reduceEqDiff, Nat.reduceLT, Nat.reduceLeDiff, Int.reduceToNat, Int.reduceEq, Int.reduceLT, Int.reduceLE, w64]) | (with_reducible apply And.intro; focus (first | omega | (simp only [Fact, Bool.not_eq_true', Bool.not_eq_false', decide_eq_true_eq, decide_eq_false_iff_not] at *; omega)); (try simp (disch := omega) only [*, ↓Ed, Eu, ↓reduceIte, reduceCtorEq, Nat.reduceAdd, Nat.reduceEqDiff, Nat.reduceLT, Nat.reduceLeDiff, Int.reduceToNat, Int.reduceEq, Int.reduceLT, Int.reduceLE, w64])) | ((first | refine gW_sp ?_ | refine condW_sp ?_ | refine pickW_sp ?_); (try refine Sp_n ?_); (first | refine Sp_t (by assumption) ?_ | refine Sp_f (by assumption) ?_ | refine Sp_split (fun h => ?_) (fun h => ?_)) <;> (first | have h' := Fact_lt h | have h' := Fact_nlt h | have h' := Fact_le h | have h' := Fact_nle h | skip) <;> (first | (exfalso; omega) | simp (disch := omega) only [*, ↓Ed, Eu, ↓reduceIte, reduceCtorEq, Nat.reduceAdd, Nat.reduceEqDiff, Nat.reduceLT, Nat.reduceLeDiff, Int.reduceToNat, Int.reduceEq, Int.reduceLT, Int.reduceLE, w64])) | (show (_ : Nat) ≤ _; omega))
end Go.Proofs.Ytedcagoilpaafaa
