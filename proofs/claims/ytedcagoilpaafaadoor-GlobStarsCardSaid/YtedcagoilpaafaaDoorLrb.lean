/- chapter 20: the rows of GlobStars, GlobPlain, GlobParts: for every pattern and text the law's call returns true -/
import Derived.Test.YtedcagoilpaafaaDoorLgb
import Derived.Test.YtedcagoilpaafaaDoorMo
import Derived.Test.YtedcagoilpaafaaDoorRows
import Derived.Test.YtedcagoilpaafaaDoorCards
import Derived.Test.YtedcagoilpaafaaDoorTie
import Derived.LaidMore
import Derived.Lay
import Derived.SevenTiedAt
import Derived.Stop.Joined
import Derived.WalkKit
import Derived.ProofKit
import Derived.OpenShut
import Derived.JoinedCond
namespace Go.Proofs.YtedcagoilpaafaaDoor
set_option linter.all false
open Go.ChangeShapes Go.WideShapes Go.ChangeAt Go.RowKit
set_option maxRecDepth 100000

theorem own : ownKnob Tryd.prog.godebug = none := by kernel_rfl
theorem laidOut : laidOutB Tryd.prog = true := by kernel_rfl
theorem ta_str {n : Nat} {a : AV} (h : TA Tryd.prog (n + 1) 9 a) : ∃ k, a = .str k ∧ k.length ≤ maxLen := by
  simp only [TA, TV, Tryd.underlying9] at h
  obtain ⟨k, h1, h2⟩ := h
  exact ⟨k, by simpa using h1, h2⟩

theorem globStars_step (os : Os) (started : os.Started) (H : Type) (enc : TypeId × Value → H) :
    ReturnsInHanded {} Tryd.checked os 4 .any (fun w args => (Rows.globStarsSpec.pre enc Tryd.prog Tryd.f4 Rows.globStarsRow.domain false w args ∧ laidMetH Tryd.prog Rows.globStarsRow.laid w) ∧ sizedMet enc Tryd.prog Tryd.f4 (OpenSpec.ofChange Rows.globStarsSpec) false w args)
      (Rows.globStarsSpec.post enc Tryd.prog Tryd.f4 false true false false) := by
  refine returnsInHanded_of_change_and (C := Tryd.checked) (X := fun w _ => laidMetH Tryd.prog Rows.globStarsRow.laid w) (fun _ _ _ hh h => h.of_heap hh) own started (by kernel_rfl) Tryd.func4
    (ChangeSpec.witness_shaped (enc := enc) (C := Tryd.checked) (os := os) (X := fun w _ => laidMetH Tryd.prog Rows.globStarsRow.laid w) false (World.laidAll Tryd.prog os Rows.globStarsRow.laid) #[.string ⟨#[]⟩, .string ⟨#[]⟩, .string ⟨#[]⟩] 8 (World.laidAll_os _ _ _)
      (World.shaped_of_ZipB (by kernel_rfl) (by kernel_rfl)) (by kernel_rfl) (by kernel_rfl) (by kernel_rfl)
      (by rw [MakeChecks.laidMetH_plain _ _ _ (by kernel_rfl)]; exact laidMet_laidAll _ (by kernel_rfl) (by kernel_rfl))) ?_
  intro W base args ds gs before hval hW _ _ _ _
  refine row_of_CP (n := 6) (tb := 4) laidOut (by kernel_rfl) (by kernel_rfl) Tryd.underlying4 rfl (fun hg hl => ?_) hval hW (fun l hl => ?_)
  · subst hg
    have hl' : ds.length = 3 := hl
    match ds, hl' with
    | [d0, d1, d2], _ => exact ⟨rfl, rfl, rfl⟩
  · rw [Tryd.params4] at hl
    obtain ⟨_, _, h0, ⟨_, _, h1, ⟨_, _, h2, rfl, rfl⟩, rfl⟩, rfl⟩ := hl
    obtain ⟨a, rfl, wa⟩ := ta_str h0
    obtain ⟨b, rfl, wb⟩ := ta_str h1
    obtain ⟨s, rfl, ws⟩ := ta_str h2
    exact p_GlobStars a b s
theorem globStars_row : Rows.GlobStarsSaid :=
  OpenClaim.holds_of_wide 4 Tryd.f4 rfl rfl rfl rfl rfl rfl rfl ⟨rfl, rfl, rfl, rfl, rfl⟩ rfl rfl rfl rfl rfl (by kernel_rfl) Tryd.func4 (by kernel_rfl)
    (of_decide_eq_true (by kernel_rfl)) (by unfold Func.isWrapper; first | (rw [if_pos (by decide +kernel)]; kernel_rfl) | (rw [if_neg (by decide +kernel)]; exact ⟨rfl, rfl⟩))
    (fun os started H enc _ => globStars_step os started H enc)
theorem globStars_holds : Rows.GlobStarsCardSaid :=
  Claim7.holds_tied_plain_at .later [] [.data, .pinned] true (true, "2e119b1224956cb76e6a8cd8493045a1be54c918c93cd296d0a384aadbadb177") false globStars_row (fun _ h => by cases h) (by kernel_rfl) (fun _ h => by cases h) globStars_row_tie rfl ⟨rfl, rfl⟩ (by kernel_rfl) rfl
    (fun f fn hf hfn => by
      obtain rfl : f = 4 := Option.some.inj ((show Tryd.prog.funcNamed Tryd.f4.name = some 4 by kernel_rfl).symm.trans hf) |>.symm
      obtain rfl : fn = Tryd.f4 := (Option.some.inj (Tryd.func4.symm.trans hfn)).symm
      exact ⟨by kernel_rfl, fun j t ht => by
        rw [Tryd.params4] at ht
        have hm : t ∈ [9, 9, 9] := by simpa using Array.mem_of_getElem? ht
        have hall : ([9, 9, 9].all fun u => !Tryd.prog.wantsStandIn u) = true := by kernel_rfl
        exact (show Tryd.prog.wantsStandIn t = false by simpa using List.all_eq_true.1 hall t hm)⟩)
    (by kernel_rfl)
theorem ta_int {n : Nat} {a : AV} (h : TA Tryd.prog (n + 1) 3 a) : ∃ k, a = .int .i64 k := by
  simp only [TA, TV, Tryd.underlying3] at h
  obtain ⟨k, h1, _⟩ := h
  exact ⟨k, by simpa using h1⟩

theorem globPlain_step (os : Os) (started : os.Started) (H : Type) (enc : TypeId × Value → H) :
    ReturnsInHanded {} Tryd.checked os 5 .any (fun w args => (Rows.globPlainSpec.pre enc Tryd.prog Tryd.f5 Rows.globPlainRow.domain false w args ∧ laidMetH Tryd.prog Rows.globPlainRow.laid w) ∧ sizedMet enc Tryd.prog Tryd.f5 (OpenSpec.ofChange Rows.globPlainSpec) false w args)
      (Rows.globPlainSpec.post enc Tryd.prog Tryd.f5 false true false false) := by
  refine returnsInHanded_of_change_and (C := Tryd.checked) (X := fun w _ => laidMetH Tryd.prog Rows.globPlainRow.laid w) (fun _ _ _ hh h => h.of_heap hh) own started (by kernel_rfl) Tryd.func5
    (ChangeSpec.witness_shaped (enc := enc) (C := Tryd.checked) (os := os) (X := fun w _ => laidMetH Tryd.prog Rows.globPlainRow.laid w) false (World.laidAll Tryd.prog os Rows.globPlainRow.laid) #[.string ⟨#[]⟩, .string ⟨#[]⟩, .int .i64 0] 8 (World.laidAll_os _ _ _)
      (World.shaped_of_ZipB (by kernel_rfl) (by kernel_rfl)) (by kernel_rfl) (by kernel_rfl) (by kernel_rfl)
      (by rw [MakeChecks.laidMetH_plain _ _ _ (by kernel_rfl)]; exact laidMet_laidAll _ (by kernel_rfl) (by kernel_rfl))) ?_
  intro W base args ds gs before hval hW _ _ _ _
  refine row_of_CP (n := 6) (tb := 4) laidOut (by kernel_rfl) (by kernel_rfl) Tryd.underlying4 rfl (fun hg hl => ?_) hval hW (fun l hl => ?_)
  · subst hg
    have hl' : ds.length = 3 := hl
    match ds, hl' with
    | [d0, d1, d2], _ => exact ⟨rfl, rfl, rfl⟩
  · rw [Tryd.params5] at hl
    obtain ⟨_, _, h0, ⟨_, _, h1, ⟨_, _, h2, rfl, rfl⟩, rfl⟩, rfl⟩ := hl
    obtain ⟨p, rfl, wp⟩ := ta_str h0
    obtain ⟨s, rfl, ws⟩ := ta_str h1
    obtain ⟨a, rfl⟩ := ta_int h2
    exact p_GlobPlain p s a
theorem globPlain_row : Rows.GlobPlainSaid :=
  OpenClaim.holds_of_wide 5 Tryd.f5 rfl rfl rfl rfl rfl rfl rfl ⟨rfl, rfl, rfl, rfl, rfl⟩ rfl rfl rfl rfl rfl (by kernel_rfl) Tryd.func5 (by kernel_rfl)
    (of_decide_eq_true (by kernel_rfl)) (by unfold Func.isWrapper; first | (rw [if_pos (by decide +kernel)]; kernel_rfl) | (rw [if_neg (by decide +kernel)]; exact ⟨rfl, rfl⟩))
    (fun os started H enc _ => globPlain_step os started H enc)
theorem globPlain_holds : Rows.GlobPlainCardSaid :=
  Claim7.holds_tied_plain_at .later [] [.data, .pinned] true (true, "2e119b1224956cb76e6a8cd8493045a1be54c918c93cd296d0a384aadbadb177") false globPlain_row (fun _ h => by cases h) (by kernel_rfl) (fun _ h => by cases h) globPlain_row_tie rfl ⟨rfl, rfl⟩ (by kernel_rfl) rfl
    (fun f fn hf hfn => by
      obtain rfl : f = 5 := Option.some.inj ((show Tryd.prog.funcNamed Tryd.f5.name = some 5 by kernel_rfl).symm.trans hf) |>.symm
      obtain rfl : fn = Tryd.f5 := (Option.some.inj (Tryd.func5.symm.trans hfn)).symm
      exact ⟨by kernel_rfl, fun j t ht => by
        rw [Tryd.params5] at ht
        have hm : t ∈ [9, 9, 3] := by simpa using Array.mem_of_getElem? ht
        have hall : ([9, 9, 3].all fun u => !Tryd.prog.wantsStandIn u) = true := by kernel_rfl
        exact (show Tryd.prog.wantsStandIn t = false by simpa using List.all_eq_true.1 hall t hm)⟩)
    (by kernel_rfl)

theorem globParts_step (os : Os) (started : os.Started) (H : Type) (enc : TypeId × Value → H) :
    ReturnsInHanded {} Tryd.checked os 6 .any (fun w args => (Rows.globPartsSpec.pre enc Tryd.prog Tryd.f6 Rows.globPartsRow.domain false w args ∧ laidMetH Tryd.prog Rows.globPartsRow.laid w) ∧ sizedMet enc Tryd.prog Tryd.f6 (OpenSpec.ofChange Rows.globPartsSpec) false w args)
      (Rows.globPartsSpec.post enc Tryd.prog Tryd.f6 false true false false) := by
  refine returnsInHanded_of_change_and (C := Tryd.checked) (X := fun w _ => laidMetH Tryd.prog Rows.globPartsRow.laid w) (fun _ _ _ hh h => h.of_heap hh) own started (by kernel_rfl) Tryd.func6
    (ChangeSpec.witness_shaped (enc := enc) (C := Tryd.checked) (os := os) (X := fun w _ => laidMetH Tryd.prog Rows.globPartsRow.laid w) false (World.laidAll Tryd.prog os Rows.globPartsRow.laid) #[.string ⟨#[]⟩, .string ⟨#[]⟩, .string ⟨#[]⟩] 8 (World.laidAll_os _ _ _)
      (World.shaped_of_ZipB (by kernel_rfl) (by kernel_rfl)) (by kernel_rfl) (by kernel_rfl) (by kernel_rfl)
      (by rw [MakeChecks.laidMetH_plain _ _ _ (by kernel_rfl)]; exact laidMet_laidAll _ (by kernel_rfl) (by kernel_rfl))) ?_
  intro W base args ds gs before hval hW _ _ _ _
  refine row_of_CP (n := 6) (tb := 4) laidOut (by kernel_rfl) (by kernel_rfl) Tryd.underlying4 rfl (fun hg hl => ?_) hval hW (fun l hl => ?_)
  · subst hg
    have hl' : ds.length = 3 := hl
    match ds, hl' with
    | [d0, d1, d2], _ => exact ⟨rfl, rfl, rfl⟩
  · rw [Tryd.params6] at hl
    obtain ⟨_, _, h0, ⟨_, _, h1, ⟨_, _, h2, rfl, rfl⟩, rfl⟩, rfl⟩ := hl
    obtain ⟨p, rfl, wp⟩ := ta_str h0
    obtain ⟨q, rfl, wq⟩ := ta_str h1
    obtain ⟨s, rfl, ws⟩ := ta_str h2
    exact p_GlobParts p q s
theorem globParts_row : Rows.GlobPartsSaid :=
  OpenClaim.holds_of_wide 6 Tryd.f6 rfl rfl rfl rfl rfl rfl rfl ⟨rfl, rfl, rfl, rfl, rfl⟩ rfl rfl rfl rfl rfl (by kernel_rfl) Tryd.func6 (by kernel_rfl)
    (of_decide_eq_true (by kernel_rfl)) (by unfold Func.isWrapper; first | (rw [if_pos (by decide +kernel)]; kernel_rfl) | (rw [if_neg (by decide +kernel)]; exact ⟨rfl, rfl⟩))
    (fun os started H enc _ => globParts_step os started H enc)
theorem globParts_holds : Rows.GlobPartsCardSaid :=
  Claim7.holds_tied_plain_at .later [] [.data, .pinned] true (true, "2e119b1224956cb76e6a8cd8493045a1be54c918c93cd296d0a384aadbadb177") false globParts_row (fun _ h => by cases h) (by kernel_rfl) (fun _ h => by cases h) globParts_row_tie rfl ⟨rfl, rfl⟩ (by kernel_rfl) rfl
    (fun f fn hf hfn => by
      obtain rfl : f = 6 := Option.some.inj ((show Tryd.prog.funcNamed Tryd.f6.name = some 6 by kernel_rfl).symm.trans hf) |>.symm
      obtain rfl : fn = Tryd.f6 := (Option.some.inj (Tryd.func6.symm.trans hfn)).symm
      exact ⟨by kernel_rfl, fun j t ht => by
        rw [Tryd.params6] at ht
        have hm : t ∈ [9, 9, 9] := by simpa using Array.mem_of_getElem? ht
        have hall : ([9, 9, 9].all fun u => !Tryd.prog.wantsStandIn u) = true := by kernel_rfl
        exact (show Tryd.prog.wantsStandIn t = false by simpa using List.all_eq_true.1 hall t hm)⟩)
    (by kernel_rfl)
end Go.Proofs.YtedcagoilpaafaaDoor
