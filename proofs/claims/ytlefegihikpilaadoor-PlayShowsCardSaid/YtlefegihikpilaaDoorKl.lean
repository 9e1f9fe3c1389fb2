import Derived.Test.YtlefegihikpilaaDoorK15
import Derived.Test.YtlefegihikpilaaDoorK16
import Derived.Test.YtlefegihikpilaaDoorRows
import Derived.Test.YtlefegihikpilaaDoorCards
import Derived.Test.YtlefegihikpilaaDoorTie
import Derived.LaidMore
import Derived.Lay
import Derived.SevenTiedAt
import Derived.Stop.Joined
import Derived.WalkKit
import Derived.ProofKit
import Derived.OpenShut
import Derived.JoinedCond
/- chapter 32: the row of PlayShows: for every argument the law's call returns true -/
namespace Go.Proofs.YtlefegihikpilaaDoor
set_option linter.all false
open Go.ChangeShapes Go.WideShapes Go.ChangeAt Go.RowKit
set_option maxRecDepth 100000

theorem own : ownKnob Tryd.prog.godebug = none := by kernel_rfl
theorem laidOut : laidOutB Tryd.prog = true := by kernel_rfl
theorem ta_int {n : Nat} {a : AV} (h : TA Tryd.prog (n + 1) 3 a) : ∃ k, a = .int .i64 k := by
  simp only [TA, TV, Tryd.underlying3] at h
  obtain ⟨k, h1, _⟩ := h
  exact ⟨k, by simpa using h1⟩
theorem li_int : ∀ (l : List (List AV)), (∀ c ∈ l, ∃ p : Int, c = [AV.int .i64 p]) → ∃ ps : List Int, l = ps.map fun p => [AV.int .i64 p]
  | [], _ => ⟨[], rfl⟩
  | c :: l, h => by
    obtain ⟨p, rfl⟩ := h c (by simp)
    obtain ⟨ps, rfl⟩ := li_int l (fun d hd => h d (by simp [hd]))
    exact ⟨p :: ps, rfl⟩
theorem ta_intl {n : Nat} {a : AV} (h : TA Tryd.prog (n + 2) 22 a) : ∃ ps : List Int, a = .sl none (Tryd.prog.cellsOf 3) (ps.map fun p => [AV.int .i64 p]) ∧ ps.length ≤ maxLen := by
  simp only [TA, TV, Tryd.underlying22] at h
  obtain ⟨els, h1, h3, h2⟩ := h
  obtain ⟨ps, rfl⟩ := li_int els (fun c hc => by have := h2 c hc; simp only [TV, Tryd.underlying3] at this; obtain ⟨s, hs, _⟩ := this; exact ⟨s, hs⟩)
  exact ⟨ps, by simpa using h1, by simpa using h3⟩

theorem playShows_step (os : Os) (started : os.Started) (H : Type) (enc : TypeId × Value → H) :
    ReturnsInHanded {} Tryd.checked os 3 .any (fun w args => (Rows.playShowsSpec.pre enc Tryd.prog Tryd.f3 Rows.playShowsRow.domain false w args ∧ laidMetH Tryd.prog Rows.playShowsRow.laid w) ∧ sizedMet enc Tryd.prog Tryd.f3 (OpenSpec.ofChange Rows.playShowsSpec) false w args)
      (Rows.playShowsSpec.post enc Tryd.prog Tryd.f3 false true false false) := by
  refine hand_and_shaped (C := Tryd.checked) (X := fun w _ => laidMetH Tryd.prog Rows.playShowsRow.laid w) (fun _ _ _ hh h => h.of_heap hh) own started (by kernel_rfl) Tryd.func3
    (ChangeSpec.witness_shaped (enc := enc) (C := Tryd.checked) (os := os) (X := fun w _ => laidMetH Tryd.prog Rows.playShowsRow.laid w) false (World.laidAll Tryd.prog os Rows.playShowsRow.laid) #[.int .i64 0, .int .i64 0, .slice none 0 0, .int .i64 0, .int .i64 0, .int .i64 0] 8 (World.laidAll_os _ _ _)
      (World.shaped_of_ZipB (by kernel_rfl) (by kernel_rfl)) (by kernel_rfl) (by kernel_rfl) (by kernel_rfl)
      (by rw [MakeChecks.laidMetH_plain _ _ _ (by kernel_rfl)]; exact laidMet_laidAll _ (by kernel_rfl) (by kernel_rfl))) ?_
  intro W base args ds gs before hval hW _ _ hX hsh _
  refine row_of_CP (n := 6) (tb := 4) laidOut (by kernel_rfl) (by kernel_rfl) Tryd.underlying4 rfl (fun hg hl => ?_) hval hW (glob_of hX hsh) (fun l hl => ?_)
  · subst hg
    have hl' : ds.length = 6 := hl
    match ds, hl' with
    | [d0, d1, d2, d3, d4, d5], _ => exact ⟨rfl, rfl, rfl⟩
  · rw [Tryd.params3] at hl
    obtain ⟨_, _, h0, ⟨_, _, h1, ⟨_, _, h2, ⟨_, _, h3, ⟨_, _, h4, ⟨_, _, h5, rfl, rfl⟩, rfl⟩, rfl⟩, rfl⟩, rfl⟩, rfl⟩ := hl
    obtain ⟨code, rfl⟩ := ta_int h0
    obtain ⟨seq, rfl⟩ := ta_int h1
    obtain ⟨rs, rfl, wrs⟩ := ta_intl h2
    obtain ⟨it, rfl⟩ := ta_int h3
    obtain ⟨sk, rfl⟩ := ta_int h4
    obtain ⟨tx, rfl⟩ := ta_int h5
    exact p_PlayShows code seq rs it sk tx
theorem playShows_row : Rows.PlayShowsSaid :=
  OpenClaim.holds_of_wide 3 Tryd.f3 rfl rfl rfl rfl rfl rfl rfl ⟨rfl, rfl, rfl, rfl, rfl⟩ rfl rfl rfl rfl rfl (by kernel_rfl) Tryd.func3 (by kernel_rfl)
    (of_decide_eq_true (by kernel_rfl)) (by unfold Func.isWrapper; first | (rw [if_pos (by decide +kernel)]; kernel_rfl) | (rw [if_neg (by decide +kernel)]; exact ⟨rfl, rfl⟩))
    (fun os started H enc _ => playShows_step os started H enc)
theorem playShows_holds : Rows.PlayShowsCardSaid :=
  Claim7.holds_tied_plain_at .later [] [.data, .data, .data] true (true, "c2e65137e3355d6f7898e3e3816d2eb140a2c2d136cc123ce46a443267c75b70") false playShows_row (fun _ h => by cases h) (by kernel_rfl) (fun _ h => by cases h) playShows_row_tie rfl ⟨rfl, rfl⟩ (by kernel_rfl) rfl
    (fun f fn hf hfn => by
      obtain rfl : f = 3 := Option.some.inj ((show Tryd.prog.funcNamed Tryd.f3.name = some 3 by kernel_rfl).symm.trans hf) |>.symm
      obtain rfl : fn = Tryd.f3 := (Option.some.inj (Tryd.func3.symm.trans hfn)).symm
      exact ⟨by kernel_rfl, fun j t ht => by
        rw [Tryd.params3] at ht
        have hm : t ∈ [3, 3, 22, 3, 3, 3] := by simpa using Array.mem_of_getElem? ht
        have hall : ([3, 3, 22, 3, 3, 3].all fun u => !Tryd.prog.wantsStandIn u) = true := by kernel_rfl
        exact (show Tryd.prog.wantsStandIn t = false by simpa using List.all_eq_true.1 hall t hm)⟩)
    (by kernel_rfl)
end Go.Proofs.YtlefegihikpilaaDoor
