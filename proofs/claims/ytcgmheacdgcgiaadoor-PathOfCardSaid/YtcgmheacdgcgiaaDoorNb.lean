/- plain laws: names -/
import Derived.Test.YtcgmheacdgcgiaaDoorMr
namespace Go.Proofs.YtcgmheacdgcgiaaDoor
set_option linter.all false
def okAt (s : List UInt8) (j : Nat) : Prop := (97 ≤ (s.getD j 0).toNat ∧ (s.getD j 0).toNat ≤ 122) ∨ j ≠ 0 ∧ ((48 ≤ (s.getD j 0).toNat ∧ (s.getD j 0).toNat ≤ 57) ∨ (s.getD j 0).toNat = 45)
def nameQ (s : List UInt8) : Prop := s ≠ [] ∧ s.length ≤ 12 ∧ ∀ j, j < s.length → okAt s j
open Classical in
noncomputable def nameP (s : List UInt8) : Bool := decide (nameQ s)
theorem nameP_t {s : List UInt8} (h : nameQ s) : nameP s = true := by simp [nameP, h]
theorem nameP_f {s : List UInt8} (h : ¬ nameQ s) : nameP s = false := by simp [nameP, h]
theorem nameP_iff {s : List UInt8} : nameP s = true ↔ nameQ s := by simp [nameP]
theorem name_bad {s : List UInt8} {k : Nat} (hk : k < s.length) (h : ¬ okAt s k) : false = nameP s := (nameP_f fun g => h (g.2.2 k hk)).symm
theorem name_end {s : List UInt8} {k : Nat} (hk : s.length ≤ k) (h : ∀ j, j < k → okAt s j) : nameQ s ↔ s ≠ [] ∧ s.length ≤ 12 := ⟨fun g => ⟨g.1, g.2.1⟩, fun g => ⟨g.1, g.2, fun j hj => h j (by omega)⟩⟩
theorem name_dec {s : List UInt8} {k : Nat} (hk : s.length ≤ k) (h : ∀ j, j < k → okAt s j) : nameP s = decide (s.length ≠ 0 ∧ s.length ≤ 12) := by
  unfold nameP
  rw [decide_eq_decide, name_end hk h, ne_eq, ← List.length_eq_zero_iff]
/-- An end: a name and a number. -/
noncomputable def mayP (p : List UInt8) (c : Int) : Bool := nameP p && decide (0 ≤ c) && decide (c ≤ 999)
theorem name_step {s : List UInt8} {k : Nat} (h : ∀ j, j < k → okAt s j) (g : okAt s k) : ∀ j, j < k + 1 → okAt s j := fun j hj => by
  by_cases e : j = k
  · subst e; exact g
  · exact h j (by omega)
end Go.Proofs.YtcgmheacdgcgiaaDoor
