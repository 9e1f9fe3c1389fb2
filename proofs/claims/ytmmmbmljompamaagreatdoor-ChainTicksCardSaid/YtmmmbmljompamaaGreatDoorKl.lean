import Derived.Test.YtmmmbmljompamaaGreatDoorK14
import Derived.Test.YtmmmbmljompamaaGreatDoorRows
import Derived.Test.YtmmmbmljompamaaGreatDoorCards
import Derived.Test.YtmmmbmljompamaaGreatDoorTie
import Derived.LaidMore
import Derived.Lay
import Derived.SevenTiedAt
import Derived.Stop.Joined
import Derived.WalkKit
import Derived.ProofKit
import Derived.OpenShut
import Derived.JoinedCond
/- chapter 19: the row of ChainTicks: for every argument the law's call returns true -/
namespace Go.Proofs.YtmmmbmljompamaaGreatDoor
set_option linter.all false
open Go.ChangeShapes Go.WideShapes Go.ChangeAt Go.RowKit
set_option maxRecDepth 100000

theorem own : ownKnob Tryz.prog.godebug = none := by kernel_rfl
theorem laidOut : laidOutB Tryz.prog = true := by kernel_rfl
theorem li_int : ∀ (l : List (List AV)), (∀ c ∈ l, ∃ p : Int, c = [AV.int .i64 p]) → ∃ ps : List Int, l = ps.map fun p => [AV.int .i64 p]
  | [], _ => ⟨[], rfl⟩
  | c :: l, h => by
    obtain ⟨p, rfl⟩ := h c (by simp)
    obtain ⟨ps, rfl⟩ := li_int l (fun d hd => h d (by simp [hd]))
    exact ⟨p :: ps, rfl⟩
theorem ta_intl {n : Nat} {a : AV} (h : TA Tryz.prog (n + 2) 22 a) : ∃ ps : List Int, a = .sl none (Tryz.prog.cellsOf 3) (ps.map fun p => [AV.int .i64 p]) ∧ ps.length ≤ maxLen := by
  rw [TA, Tryz.underlying22, TV, Tryz.underlying22] at h
  obtain ⟨els, h1, h3, h2⟩ := h
  obtain ⟨ps, rfl⟩ := li_int els (fun c hc => by have := h2 c hc; simp only [TV, Tryz.underlying3] at this; obtain ⟨s, hs, _⟩ := this; exact ⟨s, hs⟩)
  exact ⟨ps, by simpa using h1, by simpa using h3⟩

theorem chainTicks_step (os : Os) (started : os.Started) (H : Type) (enc : TypeId × Value → H) :
    ReturnsInHanded {} Tryz.checked os 3 .any (fun w args => (Rows.chainTicksSpec.pre enc Tryz.prog Tryz.f3 Rows.chainTicksRow.domain false w args ∧ laidMetH Tryz.prog Rows.chainTicksRow.laid w) ∧ sizedMet enc Tryz.prog Tryz.f3 (OpenSpec.ofChange Rows.chainTicksSpec) false w args)
      (Rows.chainTicksSpec.post enc Tryz.prog Tryz.f3 false true false false) := by
  refine hand_and_shaped (C := Tryz.checked) (X := fun w _ => laidMetH Tryz.prog Rows.chainTicksRow.laid w) (fun _ _ _ hh h => h.of_heap hh) own started (by kernel_rfl) Tryz.func3
    (ChangeSpec.witness_shaped (enc := enc) (C := Tryz.checked) (os := os) (X := fun w _ => laidMetH Tryz.prog Rows.chainTicksRow.laid w) false (World.laidAll Tryz.prog os Rows.chainTicksRow.laid) #[.slice none 0 0] 8 (World.laidAll_os _ _ _)
      (World.shaped_of_ZipB (by kernel_rfl) (by kernel_rfl)) (by kernel_rfl) (by kernel_rfl) (by kernel_rfl)
      (by rw [MakeChecks.laidMetH_plain _ _ _ (by kernel_rfl)]; exact laidMet_laidAll _ (by kernel_rfl) (by kernel_rfl))) ?_
  intro W base args ds gs before hval hW _ _ hX hsh _
  refine row_of_CP (n := 6) (tb := 4) laidOut (by kernel_rfl) (by kernel_rfl) Tryz.underlying4 rfl (fun hg hl => ?_) hval hW (glob_of hX hsh) (fun l hl => ?_)
  · subst hg
    have hl' : ds.length = 1 := hl
    match ds, hl' with
    | [d0], _ => exact ⟨rfl, rfl, rfl⟩
  · rw [Tryz.params3] at hl
    obtain ⟨_, _, h0, rfl, rfl⟩ := hl
    obtain ⟨l, rfl, wl⟩ := ta_intl h0
    exact p_ChainTicks l
theorem chainTicks_f1 : (Rows.chainTicksRow.inPlace == Tryz.pinned.checked.prog.inPlace 3) = true := by kernel_rfl
theorem chainTicks_f2 : (Rows.chainTicksRow.unfollowed == Tryz.pinned.checked.prog.unfollowed 3) = true := by kernel_rfl
theorem chainTicks_f3 : (Rows.chainTicksRow.recurses == Tryz.pinned.checked.prog.recurses 3) = true := by kernel_rfl
theorem chainTicks_f4 : (Rows.chainTicksRow.named == Tryz.pinned.checked.prog.varsNamed 3) = true := by kernel_rfl
theorem chainTicks_closed : joinedFacts Tryz.pinned.checked.prog 3 Tryz.f3 Rows.chainTicksSpec Rows.chainTicksRow = true := by
  unfold joinedFacts
  rw [chainTicks_f1, chainTicks_f2, chainTicks_f3, chainTicks_f4, show laidOutB Tryz.pinned.checked.prog = true from laidOut]
  kernel_rfl
theorem chainTicks_text : Rows.chainTicksRow.wfByText (OpenSpec.ofChange Rows.chainTicksSpec) = true := by kernel_rfl
theorem chainTicks_goes : false = Rows.chainTicksRow.goesBy Tryz.pinned.checked.prog := by kernel_rfl
theorem chainTicks_looks : false = Tryz.pinned.checked.prog.looks [] := by kernel_rfl
theorem chainTicks_row : Rows.ChainTicksSaid :=
  OpenClaim.holds_of_wide 3 Tryz.f3 rfl rfl rfl rfl rfl rfl rfl ⟨rfl, rfl, rfl, rfl, rfl⟩ rfl rfl rfl rfl rfl (by kernel_rfl) Tryz.func3 chainTicks_closed
    (of_decide_eq_true (by kernel_rfl)) (by unfold Func.isWrapper; first | (rw [if_pos (by decide +kernel)]; kernel_rfl) | (rw [if_neg (by decide +kernel)]; exact ⟨rfl, rfl⟩))
    (fun os started H enc _ => chainTicks_step os started H enc)
theorem chainTicks_holds : Rows.ChainTicksCardSaid :=
  Claim7.holds_tied_plain_at .later [] [.data, .data, .data, .data] true (true, "8909bbc90572d9d4e9819b8dcb75b87fa579d99dc183cbae2ff0bc431da8ee2e") false chainTicks_row (fun _ h => by cases h) chainTicks_text (fun _ h => by cases h) chainTicks_row_tie rfl ⟨rfl, rfl⟩ (by kernel_rfl) rfl
    (fun f fn hf hfn => by
      obtain rfl : f = 3 := Option.some.inj ((show Tryz.prog.funcNamed Tryz.f3.name = some 3 by kernel_rfl).symm.trans hf) |>.symm
      obtain rfl : fn = Tryz.f3 := (Option.some.inj (Tryz.func3.symm.trans hfn)).symm
      exact ⟨chainTicks_looks, fun j t ht => by
        rw [Tryz.params3] at ht
        have hm : t ∈ [22] := by simpa using Array.mem_of_getElem? ht
        have hall : ([22].all fun u => !Tryz.prog.wantsStandIn u) = true := by kernel_rfl
        exact (show Tryz.prog.wantsStandIn t = false by simpa using List.all_eq_true.1 hall t hm)⟩)
    chainTicks_goes
end Go.Proofs.YtmmmbmljompamaaGreatDoor
