/- plain laws: a reader's steps -/
import Derived.Test.YtedcagoilpaafaaNa
namespace Go.Proofs.Ytedcagoilpaafaa
set_option linter.all false
/-- a step of a reader at place n, first error bad: what it gives, the place, the first error -/
def rnum (s : List UInt8) (least most : Int) (x : Int × Int) : Int × Int × Int :=
  if x.2 ≠ 0 then (0, x.1, x.2) else if (nx s x.1).2.2 ≠ 0 then (0, x.1, (nx s x.1).2.2)
  else if (nx s x.1).1 < least ∨ most < (nx s x.1).1 then (0, x.1, 1) else ((nx s x.1).1, (nx s x.1).2.1, 0)
def rtext (s : List UInt8) (most : Int) (x : Int × Int) : List UInt8 × Int × Int :=
  if x.2 ≠ 0 then ([], x.1, x.2) else if (nx s x.1).2.2 ≠ 0 then ([], x.1, (nx s x.1).2.2)
  else if most < (nx s x.1).1 then ([], x.1, 4) else if (s.length : Int) - (nx s x.1).2.1 < (nx s x.1).1 then ([], x.1, 2)
  else ((s.take ((nx s x.1).2.1 + (nx s x.1).1).toNat).drop (nx s x.1).2.1.toNat, (nx s x.1).2.1 + (nx s x.1).1, 0)
def rend (s : List UInt8) (x : Int × Int) : Int := if x.2 = 0 ∧ x.1 < s.length then 3 else x.2
theorem nx_in2 (s : List UInt8) (n : Int) : 0 ≤ (nx s n).1 ∧ (nx s n).1 < 72057594037927936 ∧ 0 ≤ (nx s n).2.1 ∧ (nx s n).2.1 ≤ s.length := by
  unfold nx
  split
  · have hb := get7_big 8 (s.drop n.toNat) true
    generalize get7 8 (s.drop n.toNat) true = g at hb
    obtain ⟨v, k, e⟩ := g
    simp only [List.length_drop] at hb ⊢
    split
    · simp only; omega
    · simp only; omega
  · simp only; omega
theorem nx_err (s : List UInt8) (n : Int) (h : (nx s n).2.2 ≠ 0) : (nx s n).1 = 0 ∧ (nx s n).2.1 = 0 := by
  unfold nx at h ⊢
  split
  · rename_i hn
    rw [if_pos hn] at h
    generalize get7 8 (s.drop n.toNat) true = g at h ⊢
    obtain ⟨v, k, e⟩ := g
    simp only at h ⊢
    split
    · rename_i he; rw [if_pos he] at h; simp at h
    · simp
  · simp
theorem rnum_in (s : List UInt8) (least most : Int) (x : Int × Int) (h : 0 ≤ x.1 ∧ x.1 ≤ s.length) : 0 ≤ (rnum s least most x).2.1 ∧ (rnum s least most x).2.1 ≤ s.length := by
  have := nx_in2 s x.1
  unfold rnum
  split
  · exact h
  split
  · exact h
  split
  · exact h
  · simp only; omega
theorem rtext_in (s : List UInt8) (most : Int) (x : Int × Int) (h : 0 ≤ x.1 ∧ x.1 ≤ s.length) : 0 ≤ (rtext s most x).2.1 ∧ (rtext s most x).2.1 ≤ s.length := by
  have := nx_in2 s x.1
  unfold rtext
  split
  · exact h
  split
  · exact h
  split
  · exact h
  split
  · exact h
  · simp only; omega
end Go.Proofs.Ytedcagoilpaafaa
