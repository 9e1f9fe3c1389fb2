import Derived.Test.YtobopbjedojebaaK18
import Derived.Test.YtobopbjedojebaaRows
import Derived.JoinedTies
import Derived.WalkKit
import Derived.ProofKit
import Derived.OpenShut
import Derived.JoinedCond
/- chapter 22: the row of LifeSides: for every argument the law's call returns true -/
namespace Go.Proofs.Ytobopbjedojebaa
set_option linter.all false
open Go.ChangeShapes Go.WideShapes Go.ChangeAt Go.RowKit
set_option maxRecDepth 100000

theorem own : ownKnob Try.prog.godebug = none := by kernel_rfl
theorem laidOut : laidOutB Try.prog = true := by kernel_rfl
theorem tv_pkt {n : Nat} {l : List AV} (h : TV Try.prog (n + 3) 25 l) : ∃ p : PktC, l = p.cs := by
  simp only [TV, TVF, Try.underlying3, Try.underlying23, Try.underlying25, Try.underlying9] at h
  obtain ⟨_, _, ⟨_, _, ⟨a1, rfl, wa1⟩, ⟨_, _, ⟨a2, rfl, wa2⟩, rfl, rfl⟩, rfl⟩, ⟨_, _, ⟨_, _, ⟨a3, rfl, wa3⟩, ⟨_, _, ⟨a4, rfl, wa4⟩, rfl, rfl⟩, rfl⟩, ⟨_, _, ⟨a5, rfl, wa5⟩, ⟨_, _, ⟨a6, rfl, wa6⟩, ⟨_, _, ⟨a7, rfl, wa7⟩, ⟨_, _, ⟨a8, rfl, wa8⟩, rfl, rfl⟩, rfl⟩, rfl⟩, rfl⟩, rfl⟩, rfl⟩ := h
  exact ⟨⟨a1, a2, a3, a4, a5, a6, a7, a8⟩, rfl⟩
theorem ta_pkt {n : Nat} {a : AV} (h : TA Try.prog (n + 3) 25 a) : ∃ c : PktC, a = .agg c.cs := by
  simp only [TA, Try.underlying25] at h
  obtain ⟨l, rfl, h⟩ := h
  obtain ⟨c, rfl⟩ := tv_pkt h
  exact ⟨c, rfl⟩
theorem ta_str {n : Nat} {a : AV} (h : TA Try.prog (n + 1) 9 a) : ∃ k, a = .str k ∧ k.length ≤ maxLen := by
  simp only [TA, TV, Try.underlying9] at h
  obtain ⟨k, h1, h2⟩ := h
  exact ⟨k, by simpa using h1, h2⟩

theorem lifeSides_step (os : Os) (started : os.Started) (H : Type) (enc : TypeId × Value → H) :
    ReturnsInHanded {} Try.checked os 3 .any (Rows.lifeSidesSpec.pre6 enc Try.prog Try.f3 Rows.lifeSidesRow.domain false) (Rows.lifeSidesSpec.post enc Try.prog Try.f3 false true false false) := by
  refine returnsInHanded_of_change (C := Try.checked) own started (by kernel_rfl) Try.func3
    (ChangeSpec.witness6 (enc := enc) (C := Try.checked) false ⟨#[], #[.agg #[.string ⟨#[]⟩, .int .i64 0, .string ⟨#[]⟩, .int .i64 0, .int .i64 0, .string ⟨#[]⟩, .int .i64 0, .int .i64 0], .string ⟨#[]⟩], []⟩ 8 (by kernel_rfl) (by kernel_rfl) (by kernel_rfl) (by kernel_rfl)) ?_
  intro W base args ds gs before hval hW _ _
  refine row_of_CP (n := 6) (tb := 4) laidOut (by kernel_rfl) (by kernel_rfl) Try.underlying4 rfl (fun hg hl => ?_) hval hW (fun x hx => by simp [globTabs] at hx) (fun l hl => ?_)
  · subst hg
    have hl' : ds.length = 2 := hl
    match ds, hl' with
    | [d0, d1], _ => exact ⟨rfl, rfl, rfl⟩
  · rw [Try.params3] at hl
    obtain ⟨_, _, h0, ⟨_, _, h1, rfl, rfl⟩, rfl⟩ := hl
    obtain ⟨p, rfl⟩ := ta_pkt h0
    obtain ⟨ack, rfl, wack⟩ := ta_str h1
    exact p_LifeSides p ack
theorem lifeSides_holds : Rows.LifeSidesSaid :=
  OpenClaim.holds_of_wide 3 Try.f3 rfl rfl rfl rfl rfl rfl rfl ⟨rfl, rfl, rfl, rfl, rfl⟩ rfl rfl rfl rfl rfl (by kernel_rfl) Try.func3 (by kernel_rfl)
    (of_decide_eq_true (by kernel_rfl)) (by unfold Func.isWrapper; first | (rw [if_pos (by decide +kernel)]; kernel_rfl) | (rw [if_neg (by decide +kernel)]; exact ⟨rfl, rfl⟩))
    (fun os started H enc _ => lifeSides_step os started H enc)
end Go.Proofs.Ytobopbjedojebaa
