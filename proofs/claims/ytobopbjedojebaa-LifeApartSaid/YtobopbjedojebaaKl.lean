import Derived.Test.YtobopbjedojebaaK18
import Derived.Test.YtobopbjedojebaaK19
import Derived.Test.YtobopbjedojebaaRows
import Derived.JoinedTies
import Derived.WalkKit
import Derived.ProofKit
import Derived.OpenShut
import Derived.JoinedCond
/- chapter 22: the rows of its laws: for every argument the law's call returns true -/
namespace Go.Proofs.Ytobopbjedojebaa
set_option linter.all false
open Go.ChangeShapes Go.WideShapes Go.ChangeAt Go.RowKit
set_option maxRecDepth 100000

theorem own : ownKnob Try.prog.godebug = none := by kernel_rfl
theorem laidOut : laidOutB Try.prog = true := by kernel_rfl
theorem tv_ev {n : Nat} {l : List AV} (h : TV Try.prog (n + 4) 28 l) : ∃ p : EvC, l = p.cs := by
  simp only [TV, TVF, Try.underlying3, Try.underlying23, Try.underlying28, Try.underlying25, Try.underlying9] at h
  obtain ⟨_, _, ⟨a1, rfl, wa1⟩, ⟨_, _, ⟨_, _, ⟨_, _, ⟨a2, rfl, wa2⟩, ⟨_, _, ⟨a3, rfl, wa3⟩, rfl, rfl⟩, rfl⟩, ⟨_, _, ⟨_, _, ⟨a4, rfl, wa4⟩, ⟨_, _, ⟨a5, rfl, wa5⟩, rfl, rfl⟩, rfl⟩, ⟨_, _, ⟨a6, rfl, wa6⟩, ⟨_, _, ⟨a7, rfl, wa7⟩, ⟨_, _, ⟨a8, rfl, wa8⟩, ⟨_, _, ⟨a9, rfl, wa9⟩, rfl, rfl⟩, rfl⟩, rfl⟩, rfl⟩, rfl⟩, rfl⟩, ⟨_, _, ⟨a10, rfl, wa10⟩, ⟨_, _, ⟨_, _, ⟨a11, rfl, wa11⟩, ⟨_, _, ⟨a12, rfl, wa12⟩, rfl, rfl⟩, rfl⟩, ⟨_, _, ⟨a13, rfl, wa13⟩, rfl, rfl⟩, rfl⟩, rfl⟩, rfl⟩, rfl⟩ := h
  exact ⟨⟨a1, ⟨a2, a3, a4, a5, a6, a7, a8, a9⟩, a10, a11, a12, a13⟩, rfl⟩
theorem li_ev : ∀ (l : List (List AV)), (∀ c ∈ l, ∃ p : EvC, c = p.cs) → ∃ ps : List EvC, l = ps.map fun p => p.cs
  | [], _ => ⟨[], rfl⟩
  | c :: l, h => by
    obtain ⟨p, rfl⟩ := h c (by simp)
    obtain ⟨ps, rfl⟩ := li_ev l (fun d hd => h d (by simp [hd]))
    exact ⟨p :: ps, rfl⟩
theorem ta_evl {n : Nat} {a : AV} (h : TA Try.prog (n + 5) 30 a) : ∃ ps : List EvC, a = .sl none (Try.prog.cellsOf 28) (ps.map fun p => p.cs) ∧ ps.length ≤ maxLen := by
  simp only [TA, TV, Try.underlying30] at h
  obtain ⟨els, h1, h3, h2⟩ := h
  obtain ⟨ps, rfl⟩ := li_ev els (fun c hc => tv_ev (h2 c hc))
  exact ⟨ps, by simpa using h1, by simpa using h3⟩

theorem lifeApart_step (os : Os) (started : os.Started) (H : Type) (enc : TypeId × Value → H) :
    ReturnsInHanded {} Try.checked os 6 .any (Rows.lifeApartSpec.pre6 enc Try.prog Try.f6 Rows.lifeApartRow.domain false) (Rows.lifeApartSpec.post enc Try.prog Try.f6 false true false false) := by
  refine returnsInHanded_of_change (C := Try.checked) own started (by kernel_rfl) Try.func6
    (ChangeSpec.witness6 (enc := enc) (C := Try.checked) false ⟨#[], #[.slice none 0 0, .slice none 0 0], []⟩ 8 (by kernel_rfl) (by kernel_rfl) (by kernel_rfl) (by kernel_rfl)) ?_
  intro W base args ds gs before hval hW _ _
  refine row_of_CP (n := 6) (tb := 4) laidOut (by kernel_rfl) (by kernel_rfl) Try.underlying4 rfl (fun hg hl => ?_) hval hW (fun x hx => by simp [globTabs] at hx) (fun l hl => ?_)
  · subst hg
    have hl' : ds.length = 2 := hl
    match ds, hl' with
    | [d0, d1], _ => exact ⟨rfl, rfl, rfl⟩
  · rw [Try.params6] at hl
    obtain ⟨_, _, h0, ⟨_, _, h1, rfl, rfl⟩, rfl⟩ := hl
    obtain ⟨l, rfl, wl⟩ := ta_evl h0
    obtain ⟨m, rfl, wm⟩ := ta_evl h1
    exact p_LifeApart l m
theorem lifeApart_holds : Rows.LifeApartSaid :=
  OpenClaim.holds_of_wide 6 Try.f6 rfl rfl rfl rfl rfl rfl rfl ⟨rfl, rfl, rfl, rfl, rfl⟩ rfl rfl rfl rfl rfl (by kernel_rfl) Try.func6 (by kernel_rfl)
    (of_decide_eq_true (by kernel_rfl)) (by unfold Func.isWrapper; first | (rw [if_pos (by decide +kernel)]; kernel_rfl) | (rw [if_neg (by decide +kernel)]; exact ⟨rfl, rfl⟩))
    (fun os started H enc _ => lifeApart_step os started H enc)
end Go.Proofs.Ytobopbjedojebaa
