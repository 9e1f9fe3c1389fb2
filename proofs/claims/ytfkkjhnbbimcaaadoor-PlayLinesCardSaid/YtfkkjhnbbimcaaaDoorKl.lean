import Derived.Test.YtfkkjhnbbimcaaaDoorK18
import Derived.Test.YtfkkjhnbbimcaaaDoorRows
import Derived.Test.YtfkkjhnbbimcaaaDoorCards
import Derived.Test.YtfkkjhnbbimcaaaDoorTie
import Derived.LaidMore
import Derived.Lay
import Derived.SevenTiedAt
import Derived.Stop.Joined
import Derived.WalkKit
import Derived.ProofKit
import Derived.OpenShut
import Derived.JoinedCond
/- chapter 32: the rows of PlayTells, PlayBack, PlayLines: for every argument the law's call returns true -/
namespace Go.Proofs.YtfkkjhnbbimcaaaDoor
set_option linter.all false
open Go.ChangeShapes Go.WideShapes Go.ChangeAt Go.RowKit
set_option maxRecDepth 100000

theorem own : ownKnob Tryd.prog.godebug = none := by kernel_rfl
theorem laidOut : laidOutB Tryd.prog = true := by kernel_rfl
theorem tv_act {n : Nat} {l : List AV} (h : TV Tryd.prog (n + 2) 44 l) : ∃ p : Act, l = p.cs := by
  simp only [TV, TVF, Tryd.underlying3, Tryd.underlying44, Tryd.underlying9] at h
  obtain ⟨_, _, ⟨a1, rfl, wa1⟩, ⟨_, _, ⟨a2, rfl, wa2⟩, ⟨_, _, ⟨a3, rfl, wa3⟩, ⟨_, _, ⟨a4, rfl, wa4⟩, ⟨_, _, ⟨a5, rfl, wa5⟩, ⟨_, _, ⟨a6, rfl, wa6⟩, rfl, rfl⟩, rfl⟩, rfl⟩, rfl⟩, rfl⟩, rfl⟩ := h
  exact ⟨⟨a1, a2, a3, a4, a5, a6⟩, rfl⟩
theorem li_act : ∀ (l : List (List AV)), (∀ c ∈ l, ∃ p : Act, c = p.cs) → ∃ ps : List Act, l = ps.map fun p => p.cs
  | [], _ => ⟨[], rfl⟩
  | c :: l, h => by
    obtain ⟨p, rfl⟩ := h c (by simp)
    obtain ⟨ps, rfl⟩ := li_act l (fun d hd => h d (by simp [hd]))
    exact ⟨p :: ps, rfl⟩
theorem ta_actl {n : Nat} {a : AV} (h : TA Tryd.prog (n + 3) 35 a) : ∃ ps : List Act, a = .sl none (Tryd.prog.cellsOf 44) (ps.map fun p => p.cs) ∧ ps.length ≤ maxLen := by
  simp only [TA, TV, Tryd.underlying35] at h
  obtain ⟨els, h1, h3, h2⟩ := h
  obtain ⟨ps, rfl⟩ := li_act els (fun c hc => tv_act (h2 c hc))
  exact ⟨ps, by simpa using h1, by simpa using h3⟩
theorem ta_str {n : Nat} {a : AV} (h : TA Tryd.prog (n + 1) 9 a) : ∃ k, a = .str k ∧ k.length ≤ maxLen := by
  simp only [TA, TV, Tryd.underlying9] at h
  obtain ⟨k, h1, h2⟩ := h
  exact ⟨k, by simpa using h1, h2⟩

theorem playTells_step (os : Os) (started : os.Started) (H : Type) (enc : TypeId × Value → H) :
    ReturnsInHanded {} Tryd.checked os 4 .any (fun w args => (Rows.playTellsSpec.pre enc Tryd.prog Tryd.f4 Rows.playTellsRow.domain false w args ∧ laidMetH Tryd.prog Rows.playTellsRow.laid w) ∧ sizedMet enc Tryd.prog Tryd.f4 (OpenSpec.ofChange Rows.playTellsSpec) false w args)
      (Rows.playTellsSpec.post enc Tryd.prog Tryd.f4 false true false false) := by
  refine hand_and_shaped (C := Tryd.checked) (X := fun w _ => laidMetH Tryd.prog Rows.playTellsRow.laid w) (fun _ _ _ hh h => h.of_heap hh) own started (by kernel_rfl) Tryd.func4
    (ChangeSpec.witness_shaped (enc := enc) (C := Tryd.checked) (os := os) (X := fun w _ => laidMetH Tryd.prog Rows.playTellsRow.laid w) false (World.laidAll Tryd.prog os Rows.playTellsRow.laid) #[.slice none 0 0, .string ⟨#[]⟩] 8 (World.laidAll_os _ _ _)
      (World.shaped_of_ZipB (by kernel_rfl) (by kernel_rfl)) (by kernel_rfl) (by kernel_rfl) (by kernel_rfl)
      (by rw [MakeChecks.laidMetH_plain _ _ _ (by kernel_rfl)]; exact laidMet_laidAll _ (by kernel_rfl) (by kernel_rfl))) ?_
  intro W base args ds gs before hval hW _ _ hX hsh _
  refine row_of_CP (n := 6) (tb := 4) laidOut (by kernel_rfl) (by kernel_rfl) Tryd.underlying4 rfl (fun hg hl => ?_) hval hW (glob_of hX hsh) (fun l hl => ?_)
  · subst hg
    have hl' : ds.length = 2 := hl
    match ds, hl' with
    | [d0, d1], _ => exact ⟨rfl, rfl, rfl⟩
  · rw [Tryd.params4] at hl
    obtain ⟨_, _, h0, ⟨_, _, h1, rfl, rfl⟩, rfl⟩ := hl
    obtain ⟨l, rfl, wl⟩ := ta_actl h0
    obtain ⟨s, rfl, ws⟩ := ta_str h1
    exact p_PlayTells l s wl none
theorem playTells_row : Rows.PlayTellsSaid :=
  OpenClaim.holds_of_wide 4 Tryd.f4 rfl rfl rfl rfl rfl rfl rfl ⟨rfl, rfl, rfl, rfl, rfl⟩ rfl rfl rfl rfl rfl (by kernel_rfl) Tryd.func4 (by kernel_rfl)
    (of_decide_eq_true (by kernel_rfl)) (by unfold Func.isWrapper; first | (rw [if_pos (by decide +kernel)]; kernel_rfl) | (rw [if_neg (by decide +kernel)]; exact ⟨rfl, rfl⟩))
    (fun os started H enc _ => playTells_step os started H enc)
theorem playTells_holds : Rows.PlayTellsCardSaid :=
  Claim7.holds_tied_plain_at .later [] [.data, .data, .data, .data, .pinned] true (true, "aae986d2f9286621b2b84064bd46a485d09695565c33a6615a87f948d4cd1afc") false playTells_row (fun _ h => by cases h) (by kernel_rfl) (fun _ h => by cases h) playTells_row_tie rfl ⟨rfl, rfl⟩ (by kernel_rfl) rfl
    (fun f fn hf hfn => by
      obtain rfl : f = 4 := Option.some.inj ((show Tryd.prog.funcNamed Tryd.f4.name = some 4 by kernel_rfl).symm.trans hf) |>.symm
      obtain rfl : fn = Tryd.f4 := (Option.some.inj (Tryd.func4.symm.trans hfn)).symm
      exact ⟨by kernel_rfl, fun j t ht => by
        rw [Tryd.params4] at ht
        have hm : t ∈ [35, 9] := by simpa using Array.mem_of_getElem? ht
        have hall : ([35, 9].all fun u => !Tryd.prog.wantsStandIn u) = true := by kernel_rfl
        exact (show Tryd.prog.wantsStandIn t = false by simpa using List.all_eq_true.1 hall t hm)⟩)
    (by kernel_rfl)

theorem playBack_step (os : Os) (started : os.Started) (H : Type) (enc : TypeId × Value → H) :
    ReturnsInHanded {} Tryd.checked os 5 .any (fun w args => (Rows.playBackSpec.pre enc Tryd.prog Tryd.f5 Rows.playBackRow.domain false w args ∧ laidMetH Tryd.prog Rows.playBackRow.laid w) ∧ sizedMet enc Tryd.prog Tryd.f5 (OpenSpec.ofChange Rows.playBackSpec) false w args)
      (Rows.playBackSpec.post enc Tryd.prog Tryd.f5 false true false false) := by
  refine hand_and_shaped (C := Tryd.checked) (X := fun w _ => laidMetH Tryd.prog Rows.playBackRow.laid w) (fun _ _ _ hh h => h.of_heap hh) own started (by kernel_rfl) Tryd.func5
    (ChangeSpec.witness_shaped (enc := enc) (C := Tryd.checked) (os := os) (X := fun w _ => laidMetH Tryd.prog Rows.playBackRow.laid w) false (World.laidAll Tryd.prog os Rows.playBackRow.laid) #[.slice none 0 0, .string ⟨#[]⟩] 8 (World.laidAll_os _ _ _)
      (World.shaped_of_ZipB (by kernel_rfl) (by kernel_rfl)) (by kernel_rfl) (by kernel_rfl) (by kernel_rfl)
      (by rw [MakeChecks.laidMetH_plain _ _ _ (by kernel_rfl)]; exact laidMet_laidAll _ (by kernel_rfl) (by kernel_rfl))) ?_
  intro W base args ds gs before hval hW _ _ hX hsh _
  refine row_of_CP (n := 6) (tb := 4) laidOut (by kernel_rfl) (by kernel_rfl) Tryd.underlying4 rfl (fun hg hl => ?_) hval hW (glob_of hX hsh) (fun l hl => ?_)
  · subst hg
    have hl' : ds.length = 2 := hl
    match ds, hl' with
    | [d0, d1], _ => exact ⟨rfl, rfl, rfl⟩
  · rw [Tryd.params5] at hl
    obtain ⟨_, _, h0, ⟨_, _, h1, rfl, rfl⟩, rfl⟩ := hl
    obtain ⟨l, rfl, wl⟩ := ta_actl h0
    obtain ⟨s, rfl, ws⟩ := ta_str h1
    exact p_PlayBack l s wl none
theorem playBack_row : Rows.PlayBackSaid :=
  OpenClaim.holds_of_wide 5 Tryd.f5 rfl rfl rfl rfl rfl rfl rfl ⟨rfl, rfl, rfl, rfl, rfl⟩ rfl rfl rfl rfl rfl (by kernel_rfl) Tryd.func5 (by kernel_rfl)
    (of_decide_eq_true (by kernel_rfl)) (by unfold Func.isWrapper; first | (rw [if_pos (by decide +kernel)]; kernel_rfl) | (rw [if_neg (by decide +kernel)]; exact ⟨rfl, rfl⟩))
    (fun os started H enc _ => playBack_step os started H enc)
theorem playBack_holds : Rows.PlayBackCardSaid :=
  Claim7.holds_tied_plain_at .later [] [.data, .data, .data, .data, .pinned] true (true, "aae986d2f9286621b2b84064bd46a485d09695565c33a6615a87f948d4cd1afc") false playBack_row (fun _ h => by cases h) (by kernel_rfl) (fun _ h => by cases h) playBack_row_tie rfl ⟨rfl, rfl⟩ (by kernel_rfl) rfl
    (fun f fn hf hfn => by
      obtain rfl : f = 5 := Option.some.inj ((show Tryd.prog.funcNamed Tryd.f5.name = some 5 by kernel_rfl).symm.trans hf) |>.symm
      obtain rfl : fn = Tryd.f5 := (Option.some.inj (Tryd.func5.symm.trans hfn)).symm
      exact ⟨by kernel_rfl, fun j t ht => by
        rw [Tryd.params5] at ht
        have hm : t ∈ [35, 9] := by simpa using Array.mem_of_getElem? ht
        have hall : ([35, 9].all fun u => !Tryd.prog.wantsStandIn u) = true := by kernel_rfl
        exact (show Tryd.prog.wantsStandIn t = false by simpa using List.all_eq_true.1 hall t hm)⟩)
    (by kernel_rfl)

theorem playLines_step (os : Os) (started : os.Started) (H : Type) (enc : TypeId × Value → H) :
    ReturnsInHanded {} Tryd.checked os 6 .any (fun w args => (Rows.playLinesSpec.pre enc Tryd.prog Tryd.f6 Rows.playLinesRow.domain false w args ∧ laidMetH Tryd.prog Rows.playLinesRow.laid w) ∧ sizedMet enc Tryd.prog Tryd.f6 (OpenSpec.ofChange Rows.playLinesSpec) false w args)
      (Rows.playLinesSpec.post enc Tryd.prog Tryd.f6 false true false false) := by
  refine hand_and_shaped (C := Tryd.checked) (X := fun w _ => laidMetH Tryd.prog Rows.playLinesRow.laid w) (fun _ _ _ hh h => h.of_heap hh) own started (by kernel_rfl) Tryd.func6
    (ChangeSpec.witness_shaped (enc := enc) (C := Tryd.checked) (os := os) (X := fun w _ => laidMetH Tryd.prog Rows.playLinesRow.laid w) false (World.laidAll Tryd.prog os Rows.playLinesRow.laid) #[.slice none 0 0, .string ⟨#[]⟩, .slice none 0 0] 8 (World.laidAll_os _ _ _)
      (World.shaped_of_ZipB (by kernel_rfl) (by kernel_rfl)) (by kernel_rfl) (by kernel_rfl) (by kernel_rfl)
      (by rw [MakeChecks.laidMetH_plain _ _ _ (by kernel_rfl)]; exact laidMet_laidAll _ (by kernel_rfl) (by kernel_rfl))) ?_
  intro W base args ds gs before hval hW _ _ hX hsh _
  refine row_of_CP (n := 6) (tb := 4) laidOut (by kernel_rfl) (by kernel_rfl) Tryd.underlying4 rfl (fun hg hl => ?_) hval hW (glob_of hX hsh) (fun l hl => ?_)
  · subst hg
    have hl' : ds.length = 3 := hl
    match ds, hl' with
    | [d0, d1, d2], _ => exact ⟨rfl, rfl, rfl⟩
  · rw [Tryd.params6] at hl
    obtain ⟨_, _, h0, ⟨_, _, h1, ⟨_, _, h2, rfl, rfl⟩, rfl⟩, rfl⟩ := hl
    obtain ⟨a, rfl, wa⟩ := ta_actl h0
    obtain ⟨s, rfl, ws⟩ := ta_str h1
    obtain ⟨b, rfl, wb⟩ := ta_actl h2
    exact p_PlayLines a s b wa wb none none
theorem playLines_row : Rows.PlayLinesSaid :=
  OpenClaim.holds_of_wide 6 Tryd.f6 rfl rfl rfl rfl rfl rfl rfl ⟨rfl, rfl, rfl, rfl, rfl⟩ rfl rfl rfl rfl rfl (by kernel_rfl) Tryd.func6 (by kernel_rfl)
    (of_decide_eq_true (by kernel_rfl)) (by unfold Func.isWrapper; first | (rw [if_pos (by decide +kernel)]; kernel_rfl) | (rw [if_neg (by decide +kernel)]; exact ⟨rfl, rfl⟩))
    (fun os started H enc _ => playLines_step os started H enc)
theorem playLines_holds : Rows.PlayLinesCardSaid :=
  Claim7.holds_tied_plain_at .later [] [.data, .data, .data, .data, .pinned] true (true, "aae986d2f9286621b2b84064bd46a485d09695565c33a6615a87f948d4cd1afc") false playLines_row (fun _ h => by cases h) (by kernel_rfl) (fun _ h => by cases h) playLines_row_tie rfl ⟨rfl, rfl⟩ (by kernel_rfl) rfl
    (fun f fn hf hfn => by
      obtain rfl : f = 6 := Option.some.inj ((show Tryd.prog.funcNamed Tryd.f6.name = some 6 by kernel_rfl).symm.trans hf) |>.symm
      obtain rfl : fn = Tryd.f6 := (Option.some.inj (Tryd.func6.symm.trans hfn)).symm
      exact ⟨by kernel_rfl, fun j t ht => by
        rw [Tryd.params6] at ht
        have hm : t ∈ [35, 9, 35] := by simpa using Array.mem_of_getElem? ht
        have hall : ([35, 9, 35].all fun u => !Tryd.prog.wantsStandIn u) = true := by kernel_rfl
        exact (show Tryd.prog.wantsStandIn t = false by simpa using List.all_eq_true.1 hall t hm)⟩)
    (by kernel_rfl)
end Go.Proofs.YtfkkjhnbbimcaaaDoor
