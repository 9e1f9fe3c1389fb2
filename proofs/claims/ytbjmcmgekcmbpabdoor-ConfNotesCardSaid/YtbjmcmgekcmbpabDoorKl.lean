import Derived.Test.YtbjmcmgekcmbpabDoorK19
import Derived.Test.YtbjmcmgekcmbpabDoorRows
import Derived.Test.YtbjmcmgekcmbpabDoorCards
import Derived.Test.YtbjmcmgekcmbpabDoorTie
import Derived.LaidMore
import Derived.Lay
import Derived.SevenTiedAt
import Derived.Stop.Joined
import Derived.Test.YtbjmcmgekcmbpabDoorK20
import Derived.WalkKit
import Derived.ProofKit
import Derived.OpenShut
import Derived.JoinedCond
/- chapter 21: the rows of ConfBack, ConfNotes: for every argument the law's call returns true -/
namespace Go.Proofs.YtbjmcmgekcmbpabDoor
set_option linter.all false
open Go.ChangeShapes Go.WideShapes Go.ChangeAt Go.RowKit
set_option maxRecDepth 100000

theorem own : ownKnob Tryd.prog.godebug = none := by kernel_rfl
theorem laidOut : laidOutB Tryd.prog = true := by kernel_rfl
theorem tv_path {n : Nat} {l : List AV} (h : TV Tryd.prog (n + 3) 42 l) : ∃ p : PathC, l = p.cs := by
  simp only [TV, TVF, Tryd.underlying4, Tryd.underlying3, Tryd.underlying40, Tryd.underlying42, Tryd.underlying9] at h
  obtain ⟨_, _, ⟨_, _, ⟨a1, rfl, wa1⟩, ⟨_, _, ⟨a2, rfl, wa2⟩, rfl, rfl⟩, rfl⟩, ⟨_, _, ⟨_, _, ⟨a3, rfl, wa3⟩, ⟨_, _, ⟨a4, rfl, wa4⟩, rfl, rfl⟩, rfl⟩, ⟨_, _, ⟨a5, rfl⟩, rfl, rfl⟩, rfl⟩, rfl⟩ := h
  exact ⟨⟨a1, a2, a3, a4, a5⟩, rfl⟩
theorem li_path : ∀ (l : List (List AV)), (∀ c ∈ l, ∃ p : PathC, c = p.cs) → ∃ ps : List PathC, l = ps.map fun p => p.cs
  | [], _ => ⟨[], rfl⟩
  | c :: l, h => by
    obtain ⟨p, rfl⟩ := h c (by simp)
    obtain ⟨ps, rfl⟩ := li_path l (fun d hd => h d (by simp [hd]))
    exact ⟨p :: ps, rfl⟩
theorem tv_rule {n : Nat} {l : List AV} (h : TV Tryd.prog (n + 2) 44 l) : ∃ p : RuleC, l = p.cs := by
  simp only [TV, TVF, Tryd.underlying4, Tryd.underlying44, Tryd.underlying9] at h
  obtain ⟨_, _, ⟨a6, rfl⟩, ⟨_, _, ⟨a7, rfl, wa7⟩, rfl, rfl⟩, rfl⟩ := h
  exact ⟨⟨a6, a7⟩, rfl⟩
theorem li_rule : ∀ (l : List (List AV)), (∀ c ∈ l, ∃ p : RuleC, c = p.cs) → ∃ ps : List RuleC, l = ps.map fun p => p.cs
  | [], _ => ⟨[], rfl⟩
  | c :: l, h => by
    obtain ⟨p, rfl⟩ := h c (by simp)
    obtain ⟨ps, rfl⟩ := li_rule l (fun d hd => h d (by simp [hd]))
    exact ⟨p :: ps, rfl⟩
theorem tv_conf {n : Nat} {l : List AV} (h : TV Tryd.prog (n + 5) 27 l) : ∃ p : Conf, l = p.cs ∧ p.ps.length ≤ maxLen ∧ p.rs.length ≤ maxLen := by
  simp only [TV, TVF, Tryd.underlying24, Tryd.underlying25, Tryd.underlying3, Tryd.underlying27, Tryd.underlying23, Tryd.underlying9] at h
  obtain ⟨_, _, ⟨a8, rfl, wa8⟩, ⟨_, _, ⟨a9, rfl, wa9⟩, ⟨_, _, ⟨_, _, ⟨a10, rfl, wa10⟩, ⟨_, _, ⟨a11, rfl, wa11⟩, ⟨_, _, ⟨a12, rfl, wa12⟩, rfl, rfl⟩, rfl⟩, rfl⟩, ⟨_, _, ⟨_, _, ⟨a13, rfl, wa13⟩, ⟨_, _, ⟨a14, rfl, wa14⟩, ⟨_, _, ⟨a15, rfl, wa15⟩, rfl, rfl⟩, rfl⟩, rfl⟩, ⟨_, _, ⟨a16, rfl, wa16, ha16⟩, ⟨_, _, ⟨a17, rfl, wa17, ha17⟩, ⟨_, _, ⟨a18, rfl, wa18⟩, rfl, rfl⟩, rfl⟩, rfl⟩, rfl⟩, rfl⟩, rfl⟩, rfl⟩ := h
  obtain ⟨a16x, rfl⟩ := li_path a16 (fun c hc => tv_path (n := n + 0) (ha16 c hc))
  obtain ⟨a17x, rfl⟩ := li_rule a17 (fun c hc => tv_rule (n := n + 1) (ha17 c hc))
  exact ⟨⟨a8, a9, ⟨a10, a11, a12⟩, ⟨a13, a14, a15⟩, a16x, a17x, a18⟩, rfl, by simpa using wa16, by simpa using wa17⟩
theorem ta_conf {n : Nat} {a : AV} (h : TA Tryd.prog (n + 5) 27 a) : ∃ c : Conf, a = .agg c.cs ∧ c.ps.length ≤ maxLen ∧ c.rs.length ≤ maxLen := by
  simp only [TA, Tryd.underlying27] at h
  obtain ⟨l, rfl, h⟩ := h
  obtain ⟨c, rfl, w⟩ := tv_conf h
  exact ⟨c, rfl, w⟩

theorem confBack_step (os : Os) (started : os.Started) (H : Type) (enc : TypeId × Value → H) :
    ReturnsInHanded {} Tryd.checked os 3 .any (fun w args => (Rows.confBackSpec.pre enc Tryd.prog Tryd.f3 Rows.confBackRow.domain false w args ∧ laidMetH Tryd.prog Rows.confBackRow.laid w) ∧ sizedMet enc Tryd.prog Tryd.f3 (OpenSpec.ofChange Rows.confBackSpec) false w args)
      (Rows.confBackSpec.post enc Tryd.prog Tryd.f3 false true false false) := by
  refine hand_and_shaped (C := Tryd.checked) (X := fun w _ => laidMetH Tryd.prog Rows.confBackRow.laid w) (fun _ _ _ hh h => h.of_heap hh) own started (by kernel_rfl) Tryd.func3
    (ChangeSpec.witness_shaped (enc := enc) (C := Tryd.checked) (os := os) (X := fun w _ => laidMetH Tryd.prog Rows.confBackRow.laid w) false (World.laidAll Tryd.prog os Rows.confBackRow.laid) #[.agg #[.string ⟨#[]⟩, .string ⟨#[]⟩, .int .i64 0, .int .i64 0, .int .i64 0, .int .i64 0, .int .i64 0, .int .i64 0, .slice none 0 0, .slice none 0 0, .int .i64 0]] 8 (World.laidAll_os _ _ _)
      (World.shaped_of_ZipB (by kernel_rfl) (by kernel_rfl)) (by kernel_rfl) (by kernel_rfl) (by kernel_rfl)
      (by rw [MakeChecks.laidMetH_plain _ _ _ (by kernel_rfl)]; exact laidMet_laidAll _ (by kernel_rfl) (by kernel_rfl))) ?_
  intro W base args ds gs before hval hW _ _ hX hsh _
  refine row_of_CP (n := 6) (tb := 4) laidOut (by kernel_rfl) (by kernel_rfl) Tryd.underlying4 rfl (fun hg hl => ?_) hval hW (glob_of hX hsh) (fun l hl => ?_)
  · subst hg
    have hl' : ds.length = 1 := hl
    match ds, hl' with
    | [d0], _ => exact ⟨rfl, rfl, rfl⟩
  · rw [Tryd.params3] at hl
    obtain ⟨_, _, h0, rfl, rfl⟩ := hl
    obtain ⟨c, rfl, wc⟩ := ta_conf h0
    exact p_ConfBack c wc.1 wc.2
theorem confBack_row : Rows.ConfBackSaid :=
  OpenClaim.holds_of_wide 3 Tryd.f3 rfl rfl rfl rfl rfl rfl rfl ⟨rfl, rfl, rfl, rfl, rfl⟩ rfl rfl rfl rfl rfl (by kernel_rfl) Tryd.func3 (by kernel_rfl)
    (of_decide_eq_true (by kernel_rfl)) (by unfold Func.isWrapper; first | (rw [if_pos (by decide +kernel)]; kernel_rfl) | (rw [if_neg (by decide +kernel)]; exact ⟨rfl, rfl⟩))
    (fun os started H enc _ => confBack_step os started H enc)
theorem confBack_holds : Rows.ConfBackCardSaid :=
  Claim7.holds_tied_plain_at .later [] [.data, .data, .data, .data, .pinned] true (true, "410324baaf118bc29f658eba779de51ffa0a4b890d42ffe04ae5e95a5db7270a") false confBack_row (fun _ h => by cases h) (by kernel_rfl) (fun _ h => by cases h) confBack_row_tie rfl ⟨rfl, rfl⟩ (by kernel_rfl) rfl
    (fun f fn hf hfn => by
      obtain rfl : f = 3 := Option.some.inj ((show Tryd.prog.funcNamed Tryd.f3.name = some 3 by kernel_rfl).symm.trans hf) |>.symm
      obtain rfl : fn = Tryd.f3 := (Option.some.inj (Tryd.func3.symm.trans hfn)).symm
      exact ⟨by kernel_rfl, fun j t ht => by
        rw [Tryd.params3] at ht
        have hm : t ∈ [27] := by simpa using Array.mem_of_getElem? ht
        have hall : ([27].all fun u => !Tryd.prog.wantsStandIn u) = true := by kernel_rfl
        exact (show Tryd.prog.wantsStandIn t = false by simpa using List.all_eq_true.1 hall t hm)⟩)
    (by kernel_rfl)
theorem ta_str {n : Nat} {a : AV} (h : TA Tryd.prog (n + 1) 9 a) : ∃ k, a = .str k ∧ k.length ≤ maxLen := by
  simp only [TA, TV, Tryd.underlying9] at h
  obtain ⟨k, h1, h2⟩ := h
  exact ⟨k, by simpa using h1, h2⟩
theorem ta_int {n : Nat} {a : AV} (h : TA Tryd.prog (n + 1) 3 a) : ∃ k, a = .int .i64 k := by
  simp only [TA, TV, Tryd.underlying3] at h
  obtain ⟨k, h1, _⟩ := h
  exact ⟨k, by simpa using h1⟩

theorem confNotes_step (os : Os) (started : os.Started) (H : Type) (enc : TypeId × Value → H) :
    ReturnsInHanded {} Tryd.checked os 4 .any (fun w args => (Rows.confNotesSpec.pre enc Tryd.prog Tryd.f4 Rows.confNotesRow.domain false w args ∧ laidMetH Tryd.prog Rows.confNotesRow.laid w) ∧ sizedMet enc Tryd.prog Tryd.f4 (OpenSpec.ofChange Rows.confNotesSpec) false w args)
      (Rows.confNotesSpec.post enc Tryd.prog Tryd.f4 false true false false) := by
  refine hand_and_shaped (C := Tryd.checked) (X := fun w _ => laidMetH Tryd.prog Rows.confNotesRow.laid w) (fun _ _ _ hh h => h.of_heap hh) own started (by kernel_rfl) Tryd.func4
    (ChangeSpec.witness_shaped (enc := enc) (C := Tryd.checked) (os := os) (X := fun w _ => laidMetH Tryd.prog Rows.confNotesRow.laid w) false (World.laidAll Tryd.prog os Rows.confNotesRow.laid) #[.agg #[.string ⟨#[]⟩, .string ⟨#[]⟩, .int .i64 0, .int .i64 0, .int .i64 0, .int .i64 0, .int .i64 0, .int .i64 0, .slice none 0 0, .slice none 0 0, .int .i64 0], .string ⟨#[]⟩, .int .i64 0] 8 (World.laidAll_os _ _ _)
      (World.shaped_of_ZipB (by kernel_rfl) (by kernel_rfl)) (by kernel_rfl) (by kernel_rfl) (by kernel_rfl)
      (by rw [MakeChecks.laidMetH_plain _ _ _ (by kernel_rfl)]; exact laidMet_laidAll _ (by kernel_rfl) (by kernel_rfl))) ?_
  intro W base args ds gs before hval hW _ _ hX hsh _
  refine row_of_CP (n := 6) (tb := 4) laidOut (by kernel_rfl) (by kernel_rfl) Tryd.underlying4 rfl (fun hg hl => ?_) hval hW (glob_of hX hsh) (fun l hl => ?_)
  · subst hg
    have hl' : ds.length = 3 := hl
    match ds, hl' with
    | [d0, d1, d2], _ => exact ⟨rfl, rfl, rfl⟩
  · rw [Tryd.params4] at hl
    obtain ⟨_, _, h0, ⟨_, _, h1, ⟨_, _, h2, rfl, rfl⟩, rfl⟩, rfl⟩ := hl
    obtain ⟨c, rfl, wc⟩ := ta_conf h0
    obtain ⟨note, rfl, wnote⟩ := ta_str h1
    obtain ⟨n, rfl⟩ := ta_int h2
    exact p_ConfNotes c note n wc.1 wc.2
theorem confNotes_row : Rows.ConfNotesSaid :=
  OpenClaim.holds_of_wide 4 Tryd.f4 rfl rfl rfl rfl rfl rfl rfl ⟨rfl, rfl, rfl, rfl, rfl⟩ rfl rfl rfl rfl rfl (by kernel_rfl) Tryd.func4 (by kernel_rfl)
    (of_decide_eq_true (by kernel_rfl)) (by unfold Func.isWrapper; first | (rw [if_pos (by decide +kernel)]; kernel_rfl) | (rw [if_neg (by decide +kernel)]; exact ⟨rfl, rfl⟩))
    (fun os started H enc _ => confNotes_step os started H enc)
theorem confNotes_holds : Rows.ConfNotesCardSaid :=
  Claim7.holds_tied_plain_at .later [] [.data, .data, .data, .data, .pinned] true (true, "410324baaf118bc29f658eba779de51ffa0a4b890d42ffe04ae5e95a5db7270a") false confNotes_row (fun _ h => by cases h) (by kernel_rfl) (fun _ h => by cases h) confNotes_row_tie rfl ⟨rfl, rfl⟩ (by kernel_rfl) rfl
    (fun f fn hf hfn => by
      obtain rfl : f = 4 := Option.some.inj ((show Tryd.prog.funcNamed Tryd.f4.name = some 4 by kernel_rfl).symm.trans hf) |>.symm
      obtain rfl : fn = Tryd.f4 := (Option.some.inj (Tryd.func4.symm.trans hfn)).symm
      exact ⟨by kernel_rfl, fun j t ht => by
        rw [Tryd.params4] at ht
        have hm : t ∈ [27, 9, 3] := by simpa using Array.mem_of_getElem? ht
        have hall : ([27, 9, 3].all fun u => !Tryd.prog.wantsStandIn u) = true := by kernel_rfl
        exact (show Tryd.prog.wantsStandIn t = false by simpa using List.all_eq_true.1 hall t hm)⟩)
    (by kernel_rfl)
end Go.Proofs.YtbjmcmgekcmbpabDoor
