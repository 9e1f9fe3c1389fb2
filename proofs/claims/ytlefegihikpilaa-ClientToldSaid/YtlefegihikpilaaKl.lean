import Derived.Test.YtlefegihikpilaaK16
import Derived.Test.YtlefegihikpilaaK17
import Derived.Test.YtlefegihikpilaaRows
import Derived.JoinedTies
import Derived.WalkKit
import Derived.ProofKit
import Derived.OpenShut
import Derived.JoinedCond
/- chapter 14: the rows of its laws: for every argument the law's call returns true -/
namespace Go.Proofs.Ytlefegihikpilaa
set_option linter.all false
open Go.ChangeShapes Go.WideShapes Go.ChangeAt Go.RowKit
set_option maxRecDepth 100000

theorem own : ownKnob Try.prog.godebug = none := by kernel_rfl
theorem laidOut : laidOutB Try.prog = true := by kernel_rfl
theorem tv_hd {n : Nat} {l : List AV} (h : TV Try.prog (n + 3) 30 l) : ∃ p : HdC, l = p.cs := by
  simp only [TV, TVF, Try.underlying30, Try.underlying3, Try.underlying28, Try.underlying5] at h
  obtain ⟨_, _, ⟨a, rfl, _⟩, ⟨_, _, ⟨b, rfl, _⟩, ⟨_, _, ⟨els, rfl, hl, he⟩, rfl, rfl⟩, rfl⟩, rfl⟩ := h
  have : ∃ r : List Int, els = r.map fun p => [AV.int .u8 p] := by
    clear hl
    induction els with
    | nil => exact ⟨[], rfl⟩
    | cons c l ih =>
      obtain ⟨p, rfl, _⟩ := he c (by simp)
      obtain ⟨r, rfl⟩ := ih fun d hd => he d (by simp [hd])
      exact ⟨p :: r, rfl⟩
  obtain ⟨r, rfl⟩ := this
  refine ⟨⟨a, b, r, by simpa using hl⟩, ?_⟩
  have : (r.map fun p => [AV.int .u8 p]).flatten = r.map (AV.int .u8 ·) := by
    clear hl he
    induction r with
    | nil => rfl
    | cons x r ih => simp [ih]
  simp [HdC.cs, HdC.rt, this]
theorem li_hd : ∀ (l : List (List AV)), (∀ c ∈ l, ∃ p : HdC, c = p.cs) → ∃ ps : List HdC, l = ps.map fun p => p.cs
  | [], _ => ⟨[], rfl⟩
  | c :: l, h => by
    obtain ⟨p, rfl⟩ := h c (by simp)
    obtain ⟨ps, rfl⟩ := li_hd l (fun d hd => h d (by simp [hd]))
    exact ⟨p :: ps, rfl⟩
theorem ta_hdl {n : Nat} {a : AV} (h : TA Try.prog (n + 4) 22 a) : ∃ ps : List HdC, a = .sl none (Try.prog.cellsOf 30) (ps.map fun p => p.cs) ∧ ps.length ≤ maxLen := by
  simp only [TA, TV, Try.underlying22] at h
  obtain ⟨els, h1, h3, h2⟩ := h
  obtain ⟨ps, rfl⟩ := li_hd els (fun c hc => tv_hd (h2 c hc))
  exact ⟨ps, by simpa using h1, by simpa using h3⟩
theorem ta_int {n : Nat} {a : AV} (h : TA Try.prog (n + 1) 3 a) : ∃ k, a = .int .i64 k := by
  simp only [TA, TV, Try.underlying3] at h
  obtain ⟨k, h1, _⟩ := h
  exact ⟨k, by simpa using h1⟩

theorem clientPlays_step (os : Os) (started : os.Started) (H : Type) (enc : TypeId × Value → H) :
    ReturnsInHanded {} Try.checked os 4 .any (Rows.clientPlaysSpec.pre6 enc Try.prog Try.f4 Rows.clientPlaysRow.domain false) (Rows.clientPlaysSpec.post enc Try.prog Try.f4 false true false false) := by
  refine returnsInHanded_of_change (C := Try.checked) own started (by kernel_rfl) Try.func4
    (ChangeSpec.witness6 (enc := enc) (C := Try.checked) false ⟨#[], #[.slice none 0 0, .slice none 0 0, .int .i64 0], []⟩ 8 (by kernel_rfl) (by kernel_rfl) (by kernel_rfl) (by kernel_rfl)) ?_
  intro W base args ds gs before hval hW _ _
  refine row_of_CP (n := 6) (tb := 4) laidOut (by kernel_rfl) (by kernel_rfl) Try.underlying4 rfl (fun hg hl => ?_) hval hW (fun x hx => by simp [globTabs] at hx) (fun l hl => ?_)
  · subst hg
    have hl' : ds.length = 3 := hl
    match ds, hl' with
    | [d0, d1, d2], _ => exact ⟨rfl, rfl, rfl⟩
  · rw [Try.params4] at hl
    obtain ⟨_, _, h0, ⟨_, _, h1, ⟨_, _, h2, rfl, rfl⟩, rfl⟩, rfl⟩ := hl
    obtain ⟨l, rfl, wl⟩ := ta_hdl h0
    obtain ⟨told, rfl, wtold⟩ := ta_hdl h1
    obtain ⟨a, rfl⟩ := ta_int h2
    exact p_ClientPlays l told a
theorem clientPlays_holds : Rows.ClientPlaysSaid :=
  OpenClaim.holds_of_wide 4 Try.f4 rfl rfl rfl rfl rfl rfl rfl ⟨rfl, rfl, rfl, rfl, rfl⟩ rfl rfl rfl rfl rfl (by kernel_rfl) Try.func4 (by kernel_rfl)
    (of_decide_eq_true (by kernel_rfl)) (by unfold Func.isWrapper; first | (rw [if_pos (by decide +kernel)]; kernel_rfl) | (rw [if_neg (by decide +kernel)]; exact ⟨rfl, rfl⟩))
    (fun os started H enc _ => clientPlays_step os started H enc)

theorem clientCopies_step (os : Os) (started : os.Started) (H : Type) (enc : TypeId × Value → H) :
    ReturnsInHanded {} Try.checked os 5 .any (Rows.clientCopiesSpec.pre6 enc Try.prog Try.f5 Rows.clientCopiesRow.domain false) (Rows.clientCopiesSpec.post enc Try.prog Try.f5 false true false false) := by
  refine returnsInHanded_of_change (C := Try.checked) own started (by kernel_rfl) Try.func5
    (ChangeSpec.witness6 (enc := enc) (C := Try.checked) false ⟨#[], #[.slice none 0 0, .slice none 0 0, .slice none 0 0], []⟩ 8 (by kernel_rfl) (by kernel_rfl) (by kernel_rfl) (by kernel_rfl)) ?_
  intro W base args ds gs before hval hW _ _
  refine row_of_CP (n := 6) (tb := 4) laidOut (by kernel_rfl) (by kernel_rfl) Try.underlying4 rfl (fun hg hl => ?_) hval hW (fun x hx => by simp [globTabs] at hx) (fun l hl => ?_)
  · subst hg
    have hl' : ds.length = 3 := hl
    match ds, hl' with
    | [d0, d1, d2], _ => exact ⟨rfl, rfl, rfl⟩
  · rw [Try.params5] at hl
    obtain ⟨_, _, h0, ⟨_, _, h1, ⟨_, _, h2, rfl, rfl⟩, rfl⟩, rfl⟩ := hl
    obtain ⟨l, rfl, wl⟩ := ta_hdl h0
    obtain ⟨l2, rfl, wl2⟩ := ta_hdl h1
    obtain ⟨told, rfl, wtold⟩ := ta_hdl h2
    exact p_ClientCopies l l2 told
theorem clientCopies_holds : Rows.ClientCopiesSaid :=
  OpenClaim.holds_of_wide 5 Try.f5 rfl rfl rfl rfl rfl rfl rfl ⟨rfl, rfl, rfl, rfl, rfl⟩ rfl rfl rfl rfl rfl (by kernel_rfl) Try.func5 (by kernel_rfl)
    (of_decide_eq_true (by kernel_rfl)) (by unfold Func.isWrapper; first | (rw [if_pos (by decide +kernel)]; kernel_rfl) | (rw [if_neg (by decide +kernel)]; exact ⟨rfl, rfl⟩))
    (fun os started H enc _ => clientCopies_step os started H enc)
theorem li_int : ∀ (l : List (List AV)), (∀ c ∈ l, ∃ p : Int, c = [AV.int .i64 p]) → ∃ ps : List Int, l = ps.map fun p => [AV.int .i64 p]
  | [], _ => ⟨[], rfl⟩
  | c :: l, h => by
    obtain ⟨p, rfl⟩ := h c (by simp)
    obtain ⟨ps, rfl⟩ := li_int l (fun d hd => h d (by simp [hd]))
    exact ⟨p :: ps, rfl⟩
theorem ta_intl {n : Nat} {a : AV} (h : TA Try.prog (n + 2) 23 a) : ∃ ps : List Int, a = .sl none (Try.prog.cellsOf 3) (ps.map fun p => [AV.int .i64 p]) ∧ ps.length ≤ maxLen := by
  simp only [TA, TV, Try.underlying23] at h
  obtain ⟨els, h1, h3, h2⟩ := h
  obtain ⟨ps, rfl⟩ := li_int els (fun c hc => by have := h2 c hc; simp only [TV, Try.underlying3] at this; obtain ⟨s, hs, _⟩ := this; exact ⟨s, hs⟩)
  exact ⟨ps, by simpa using h1, by simpa using h3⟩

theorem clientTold_step (os : Os) (started : os.Started) (H : Type) (enc : TypeId × Value → H) :
    ReturnsInHanded {} Try.checked os 3 .any (Rows.clientToldSpec.pre6 enc Try.prog Try.f3 Rows.clientToldRow.domain false) (Rows.clientToldSpec.post enc Try.prog Try.f3 false true false false) := by
  refine returnsInHanded_of_change (C := Try.checked) own started (by kernel_rfl) Try.func3
    (ChangeSpec.witness6 (enc := enc) (C := Try.checked) false ⟨#[], #[.slice none 0 0, .slice none 0 0, .slice none 0 0], []⟩ 8 (by kernel_rfl) (by kernel_rfl) (by kernel_rfl) (by kernel_rfl)) ?_
  intro W base args ds gs before hval hW _ _
  refine row_of_CP (n := 6) (tb := 4) laidOut (by kernel_rfl) (by kernel_rfl) Try.underlying4 rfl (fun hg hl => ?_) hval hW (fun x hx => by simp [globTabs] at hx) (fun l hl => ?_)
  · subst hg
    have hl' : ds.length = 3 := hl
    match ds, hl' with
    | [d0, d1, d2], _ => exact ⟨rfl, rfl, rfl⟩
  · rw [Try.params3] at hl
    obtain ⟨_, _, h0, ⟨_, _, h1, ⟨_, _, h2, rfl, rfl⟩, rfl⟩, rfl⟩ := hl
    obtain ⟨l, rfl, wl⟩ := ta_hdl h0
    obtain ⟨told, rfl, wtold⟩ := ta_hdl h1
    obtain ⟨ns, rfl, wns⟩ := ta_intl h2
    exact p_ClientTold l told ns
theorem clientTold_holds : Rows.ClientToldSaid :=
  OpenClaim.holds_of_wide 3 Try.f3 rfl rfl rfl rfl rfl rfl rfl ⟨rfl, rfl, rfl, rfl, rfl⟩ rfl rfl rfl rfl rfl (by kernel_rfl) Try.func3 (by kernel_rfl)
    (of_decide_eq_true (by kernel_rfl)) (by unfold Func.isWrapper; first | (rw [if_pos (by decide +kernel)]; kernel_rfl) | (rw [if_neg (by decide +kernel)]; exact ⟨rfl, rfl⟩))
    (fun os started H enc _ => clientTold_step os started H enc)
end Go.Proofs.Ytlefegihikpilaa
