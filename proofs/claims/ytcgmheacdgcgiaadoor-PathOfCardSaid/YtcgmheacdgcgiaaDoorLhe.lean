/- chapter 3: the row of PathOf: for every argument the law's call returns true -/
import Derived.Test.YtcgmheacdgcgiaaDoorLge
import Derived.Test.YtcgmheacdgcgiaaDoorMo
import Derived.Test.YtcgmheacdgcgiaaDoorRows
import Derived.Test.YtcgmheacdgcgiaaDoorCards
import Derived.Test.YtcgmheacdgcgiaaDoorTie
import Derived.LaidMore
import Derived.Lay
import Derived.SevenTiedAt
import Derived.Stop.Joined
import Derived.Test.YtcgmheacdgcgiaaDoorLha
import Derived.WalkKit
import Derived.ProofKit
import Derived.OpenShut
import Derived.JoinedCond
namespace Go.Proofs.YtcgmheacdgcgiaaDoor
set_option linter.all false
open Go.ChangeShapes Go.WideShapes Go.ChangeAt Go.RowKit
set_option maxRecDepth 100000

theorem own : ownKnob Tryd.prog.godebug = none := by kernel_rfl
theorem laidOut : laidOutB Tryd.prog = true := by kernel_rfl
theorem ta_int {n : Nat} {a : AV} (h : TA Tryd.prog (n + 1) 3 a) : ∃ k, a = .int .i64 k := by
  simp only [TA, TV, Tryd.underlying3] at h
  obtain ⟨k, h1, _⟩ := h
  exact ⟨k, by simpa using h1⟩
theorem tv_end {n : Nat} {l : List AV} (h : TV Tryd.prog (n + 2) 29 l) : ∃ p : EndT, l = p.cs := by
  simp only [TV, TVF, Tryd.underlying3, Tryd.underlying29, Tryd.underlying9] at h
  obtain ⟨_, _, ⟨a1, rfl, wa1⟩, ⟨_, _, ⟨a2, rfl, wa2⟩, rfl, rfl⟩, rfl⟩ := h
  exact ⟨⟨a1, a2⟩, rfl⟩
theorem ta_end {n : Nat} {a : AV} (h : TA Tryd.prog (n + 2) 29 a) : ∃ c : EndT, a = .agg c.cs := by
  simp only [TA, Tryd.underlying29] at h
  obtain ⟨l, rfl, h⟩ := h
  obtain ⟨c, rfl⟩ := tv_end h
  exact ⟨c, rfl⟩
theorem ta_str {n : Nat} {a : AV} (h : TA Tryd.prog (n + 1) 9 a) : ∃ k, a = .str k ∧ k.length ≤ maxLen := by
  simp only [TA, TV, Tryd.underlying9] at h
  obtain ⟨k, h1, h2⟩ := h
  exact ⟨k, by simpa using h1, h2⟩

theorem pathOf_step (os : Os) (started : os.Started) (H : Type) (enc : TypeId × Value → H) :
    ReturnsInHanded {} Tryd.checked os 6 .any (fun w args => (Rows.pathOfSpec.pre enc Tryd.prog Tryd.f6 Rows.pathOfRow.domain false w args ∧ laidMetH Tryd.prog Rows.pathOfRow.laid w) ∧ sizedMet enc Tryd.prog Tryd.f6 (OpenSpec.ofChange Rows.pathOfSpec) false w args)
      (Rows.pathOfSpec.post enc Tryd.prog Tryd.f6 false true false false) := by
  refine hand_and_shaped (C := Tryd.checked) (X := fun w _ => laidMetH Tryd.prog Rows.pathOfRow.laid w) (fun _ _ _ hh h => h.of_heap hh) own started (by kernel_rfl) Tryd.func6
    (ChangeSpec.witness_shaped (enc := enc) (C := Tryd.checked) (os := os) (X := fun w _ => laidMetH Tryd.prog Rows.pathOfRow.laid w) false (World.laidAll Tryd.prog os Rows.pathOfRow.laid) #[.int .i64 0, .agg #[.string ⟨#[]⟩, .int .i64 0], .int .i64 0, .string ⟨#[]⟩] 8 (World.laidAll_os _ _ _)
      (World.shaped_of_ZipB (by kernel_rfl) (by kernel_rfl)) (by kernel_rfl) (by kernel_rfl) (by kernel_rfl)
      (by rw [MakeChecks.laidMetH_plain _ _ _ (by kernel_rfl)]; exact laidMet_laidAll _ (by kernel_rfl) (by kernel_rfl))) ?_
  intro W base args ds gs before hval hW _ _ hX hsh _
  refine row_of_CP (n := 6) (tb := 4) laidOut (by kernel_rfl) (by kernel_rfl) Tryd.underlying4 rfl (fun hg hl => ?_) hval hW (glob_of hX hsh) (fun l hl => ?_)
  · subst hg
    have hl' : ds.length = 4 := hl
    match ds, hl' with
    | [d0, d1, d2, d3], _ => exact ⟨rfl, rfl, rfl⟩
  · rw [Tryd.params6] at hl
    obtain ⟨_, _, h0, ⟨_, _, h1, ⟨_, _, h2, ⟨_, _, h3, rfl, rfl⟩, rfl⟩, rfl⟩, rfl⟩ := hl
    obtain ⟨k, rfl⟩ := ta_int h0
    obtain ⟨e, rfl⟩ := ta_end h1
    obtain ⟨q, rfl⟩ := ta_int h2
    obtain ⟨s, rfl, ws⟩ := ta_str h3
    exact p_PathOf k e.p e.c q s
theorem pathOf_row : Rows.PathOfSaid :=
  OpenClaim.holds_of_wide 6 Tryd.f6 rfl rfl rfl rfl rfl rfl rfl ⟨rfl, rfl, rfl, rfl, rfl⟩ rfl rfl rfl rfl rfl (by kernel_rfl) Tryd.func6 (by kernel_rfl)
    (of_decide_eq_true (by kernel_rfl)) (by unfold Func.isWrapper; first | (rw [if_pos (by decide +kernel)]; kernel_rfl) | (rw [if_neg (by decide +kernel)]; exact ⟨rfl, rfl⟩))
    (fun os started H enc _ => pathOf_step os started H enc)
theorem pathOf_holds : Rows.PathOfCardSaid :=
  Claim7.holds_tied_plain_at .later [] [.data, .data, .data, .data, .pinned] true (true, "4e7a4b0efe345482f930fa2c0cab42f239ae6b8635208cfbc6b36ad5f4b87454") false pathOf_row (fun _ h => by cases h) (by kernel_rfl) (fun _ h => by cases h) pathOf_row_tie rfl ⟨rfl, rfl⟩ (by kernel_rfl) rfl
    (fun f fn hf hfn => by
      obtain rfl : f = 6 := Option.some.inj ((show Tryd.prog.funcNamed Tryd.f6.name = some 6 by kernel_rfl).symm.trans hf) |>.symm
      obtain rfl : fn = Tryd.f6 := (Option.some.inj (Tryd.func6.symm.trans hfn)).symm
      exact ⟨by kernel_rfl, fun j t ht => by
        rw [Tryd.params6] at ht
        have hm : t ∈ [3, 29, 3, 9] := by simpa using Array.mem_of_getElem? ht
        have hall : ([3, 29, 3, 9].all fun u => !Tryd.prog.wantsStandIn u) = true := by kernel_rfl
        exact (show Tryd.prog.wantsStandIn t = false by simpa using List.all_eq_true.1 hall t hm)⟩)
    (by kernel_rfl)
end Go.Proofs.YtcgmheacdgcgiaaDoor
