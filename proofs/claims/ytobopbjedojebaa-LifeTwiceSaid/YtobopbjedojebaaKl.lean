import Derived.Test.YtobopbjedojebaaK23
import Derived.Test.YtobopbjedojebaaK24
import Derived.Test.YtobopbjedojebaaRows
import Derived.JoinedTies
import Derived.WalkKit
import Derived.ProofKit
import Derived.OpenShut
import Derived.JoinedCond
/- chapter 22: the rows of LifeFolds and LifeTwice: for every argument the law's call returns true -/
namespace Go.Proofs.Ytobopbjedojebaa
set_option linter.all false
open Go.ChangeShapes Go.WideShapes Go.ChangeAt Go.RowKit
set_option maxRecDepth 100000

theorem own : ownKnob Try.prog.godebug = none := by kernel_rfl
theorem laidOut : laidOutB Try.prog = true := by kernel_rfl
theorem tv_ev {n : Nat} {l : List AV} (h : TV Try.prog (n + 4) 28 l) : ∃ p : EvC, l = p.cs := by
  simp only [TV, TVF, Try.underlying3, Try.underlying23, Try.underlying28, Try.underlying25, Try.underlying9] at h
  obtain ⟨_, _, ⟨a1, rfl, wa1⟩, ⟨_, _, ⟨_, _, ⟨_, _, ⟨a2, rfl, wa2⟩, ⟨_, _, ⟨a3, rfl, wa3⟩, rfl, rfl⟩, rfl⟩, ⟨_, _, ⟨_, _, ⟨a4, rfl, wa4⟩, ⟨_, _, ⟨a5, rfl, wa5⟩, rfl, rfl⟩, rfl⟩, ⟨_, _, ⟨a6, rfl, wa6⟩, ⟨_, _, ⟨a7, rfl, wa7⟩, ⟨_, _, ⟨a8, rfl, wa8⟩, ⟨_, _, ⟨a9, rfl, wa9⟩, rfl, rfl⟩, rfl⟩, rfl⟩, rfl⟩, rfl⟩, rfl⟩, ⟨_, _, ⟨a10, rfl, wa10⟩, ⟨_, _, ⟨_, _, ⟨a11, rfl, wa11⟩, ⟨_, _, ⟨a12, rfl, wa12⟩, rfl, rfl⟩, rfl⟩, ⟨_, _, ⟨a13, rfl, wa13⟩, rfl, rfl⟩, rfl⟩, rfl⟩, rfl⟩, rfl⟩ := h
  exact ⟨⟨a1, ⟨a2, a3, a4, a5, a6, a7, a8, a9⟩, a10, a11, a12, a13⟩, rfl⟩
theorem li_ev : ∀ (l : List (List AV)), (∀ c ∈ l, ∃ p : EvC, c = p.cs) → ∃ ps : List EvC, l = ps.map fun p => p.cs
  | [], _ => ⟨[], rfl⟩
  | c :: l, h => by
    obtain ⟨p, rfl⟩ := h c (by simp)
    obtain ⟨ps, rfl⟩ := li_ev l (fun d hd => h d (by simp [hd]))
    exact ⟨p :: ps, rfl⟩
theorem ta_evl {n : Nat} {a : AV} (h : TA Try.prog (n + 5) 30 a) : ∃ ps : List EvC, a = .sl none (Try.prog.cellsOf 28) (ps.map fun p => p.cs) ∧ ps.length ≤ maxLen := by
  simp only [TA, TV, Try.underlying30] at h
  obtain ⟨els, h1, h3, h2⟩ := h
  obtain ⟨ps, rfl⟩ := li_ev els (fun c hc => tv_ev (h2 c hc))
  exact ⟨ps, by simpa using h1, by simpa using h3⟩
theorem tv_key {n : Nat} {l : List AV} (h : TV Try.prog (n + 3) 37 l) : ∃ p : KeyC, l = p.cs := by
  simp only [TV, TVF, Try.underlying4, Try.underlying3, Try.underlying23, Try.underlying37, Try.underlying9] at h
  obtain ⟨_, _, ⟨_, _, ⟨a14, rfl, wa14⟩, ⟨_, _, ⟨a15, rfl, wa15⟩, rfl, rfl⟩, rfl⟩, ⟨_, _, ⟨a16, rfl⟩, ⟨_, _, ⟨a17, rfl, wa17⟩, rfl, rfl⟩, rfl⟩, rfl⟩ := h
  exact ⟨⟨a14, a15, a16, a17⟩, rfl⟩
theorem ta_key {n : Nat} {a : AV} (h : TA Try.prog (n + 3) 37 a) : ∃ c : KeyC, a = .agg c.cs := by
  simp only [TA, Try.underlying37] at h
  obtain ⟨l, rfl, h⟩ := h
  obtain ⟨c, rfl⟩ := tv_key h
  exact ⟨c, rfl⟩

theorem lifeFolds_step (os : Os) (started : os.Started) (H : Type) (enc : TypeId × Value → H) :
    ReturnsInHanded {} Try.checked os 4 .any (Rows.lifeFoldsSpec.pre6 enc Try.prog Try.f4 Rows.lifeFoldsRow.domain false) (Rows.lifeFoldsSpec.post enc Try.prog Try.f4 false true false false) := by
  refine returnsInHanded_of_change (C := Try.checked) own started (by kernel_rfl) Try.func4
    (ChangeSpec.witness6 (enc := enc) (C := Try.checked) false ⟨#[], #[.slice none 0 0, .agg #[.string ⟨#[]⟩, .int .i64 0, .bool false, .int .i64 0]], []⟩ 8 (by kernel_rfl) (by kernel_rfl) (by kernel_rfl) (by kernel_rfl)) ?_
  intro W base args ds gs before hval hW _ _
  refine row_of_CP (n := 6) (tb := 4) laidOut (by kernel_rfl) (by kernel_rfl) Try.underlying4 rfl (fun hg hl => ?_) hval hW (fun x hx => by simp [globTabs] at hx) (fun l hl => ?_)
  · subst hg
    have hl' : ds.length = 2 := hl
    match ds, hl' with
    | [d0, d1], _ => exact ⟨rfl, rfl, rfl⟩
  · rw [Try.params4] at hl
    obtain ⟨_, _, h0, ⟨_, _, h1, rfl, rfl⟩, rfl⟩ := hl
    obtain ⟨l, rfl, wl⟩ := ta_evl h0
    obtain ⟨k, rfl⟩ := ta_key h1
    exact p_LifeFolds l k wl
theorem lifeFolds_holds : Rows.LifeFoldsSaid :=
  OpenClaim.holds_of_wide 4 Try.f4 rfl rfl rfl rfl rfl rfl rfl ⟨rfl, rfl, rfl, rfl, rfl⟩ rfl rfl rfl rfl rfl (by kernel_rfl) Try.func4 (by kernel_rfl)
    (of_decide_eq_true (by kernel_rfl)) (by unfold Func.isWrapper; first | (rw [if_pos (by decide +kernel)]; kernel_rfl) | (rw [if_neg (by decide +kernel)]; exact ⟨rfl, rfl⟩))
    (fun os started H enc _ => lifeFolds_step os started H enc)

theorem lifeTwice_step (os : Os) (started : os.Started) (H : Type) (enc : TypeId × Value → H) :
    ReturnsInHanded {} Try.checked os 5 .any (Rows.lifeTwiceSpec.pre6 enc Try.prog Try.f5 Rows.lifeTwiceRow.domain false) (Rows.lifeTwiceSpec.post enc Try.prog Try.f5 false true false false) := by
  refine returnsInHanded_of_change (C := Try.checked) own started (by kernel_rfl) Try.func5
    (ChangeSpec.witness6 (enc := enc) (C := Try.checked) false ⟨#[], #[.slice none 0 0], []⟩ 8 (by kernel_rfl) (by kernel_rfl) (by kernel_rfl) (by kernel_rfl)) ?_
  intro W base args ds gs before hval hW _ _
  refine row_of_CP (n := 6) (tb := 4) laidOut (by kernel_rfl) (by kernel_rfl) Try.underlying4 rfl (fun hg hl => ?_) hval hW (fun x hx => by simp [globTabs] at hx) (fun l hl => ?_)
  · subst hg
    have hl' : ds.length = 1 := hl
    match ds, hl' with
    | [d0], _ => exact ⟨rfl, rfl, rfl⟩
  · rw [Try.params5] at hl
    obtain ⟨_, _, h0, rfl, rfl⟩ := hl
    obtain ⟨l, rfl, wl⟩ := ta_evl h0
    exact p_LifeTwice l wl
theorem lifeTwice_holds : Rows.LifeTwiceSaid :=
  OpenClaim.holds_of_wide 5 Try.f5 rfl rfl rfl rfl rfl rfl rfl ⟨rfl, rfl, rfl, rfl, rfl⟩ rfl rfl rfl rfl rfl (by kernel_rfl) Try.func5 (by kernel_rfl)
    (of_decide_eq_true (by kernel_rfl)) (by unfold Func.isWrapper; first | (rw [if_pos (by decide +kernel)]; kernel_rfl) | (rw [if_neg (by decide +kernel)]; exact ⟨rfl, rfl⟩))
    (fun os started H enc _ => lifeTwice_step os started H enc)
end Go.Proofs.Ytobopbjedojebaa
