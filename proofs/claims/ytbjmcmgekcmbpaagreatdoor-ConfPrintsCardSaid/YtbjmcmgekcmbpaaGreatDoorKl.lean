import Derived.Test.YtbjmcmgekcmbpaaGreatDoorK22
import Derived.Test.YtbjmcmgekcmbpaaGreatDoorRows
import Derived.Test.YtbjmcmgekcmbpaaGreatDoorCards
import Derived.Test.YtbjmcmgekcmbpaaGreatDoorTie
import Derived.LaidMore
import Derived.Lay
import Derived.SevenTiedAt
import Derived.Stop.Joined
import Derived.WalkKit
import Derived.ProofKit
import Derived.OpenShut
import Derived.JoinedCond
/- chapter 21: the row of ConfPrints: for every argument the law's call returns true -/
namespace Go.Proofs.YtbjmcmgekcmbpaaGreatDoor
set_option linter.all false
open Go.ChangeShapes Go.WideShapes Go.ChangeAt Go.RowKit
set_option maxRecDepth 100000

theorem own : ownKnob Tryz.prog.godebug = none := by kernel_rfl
theorem laidOut : laidOutB Tryz.prog = true := by kernel_rfl
theorem tv_path {n : Nat} {l : List AV} (h : TV Tryz.prog (n + 3) 39 l) : ∃ p : PathC, l = p.cs := by
  simp only [TV, TVF, Tryz.underlying4, Tryz.underlying3, Tryz.underlying37, Tryz.underlying39, Tryz.underlying9] at h
  obtain ⟨_, _, ⟨_, _, ⟨a1, rfl, wa1⟩, ⟨_, _, ⟨a2, rfl, wa2⟩, rfl, rfl⟩, rfl⟩, ⟨_, _, ⟨_, _, ⟨a3, rfl, wa3⟩, ⟨_, _, ⟨a4, rfl, wa4⟩, rfl, rfl⟩, rfl⟩, ⟨_, _, ⟨a5, rfl⟩, rfl, rfl⟩, rfl⟩, rfl⟩ := h
  exact ⟨⟨a1, a2, a3, a4, a5⟩, rfl⟩
theorem li_path : ∀ (l : List (List AV)), (∀ c ∈ l, ∃ p : PathC, c = p.cs) → ∃ ps : List PathC, l = ps.map fun p => p.cs
  | [], _ => ⟨[], rfl⟩
  | c :: l, h => by
    obtain ⟨p, rfl⟩ := h c (by simp)
    obtain ⟨ps, rfl⟩ := li_path l (fun d hd => h d (by simp [hd]))
    exact ⟨p :: ps, rfl⟩
theorem tv_rule {n : Nat} {l : List AV} (h : TV Tryz.prog (n + 2) 41 l) : ∃ p : RuleC, l = p.cs := by
  simp only [TV, TVF, Tryz.underlying4, Tryz.underlying41, Tryz.underlying9] at h
  obtain ⟨_, _, ⟨a6, rfl⟩, ⟨_, _, ⟨a7, rfl, wa7⟩, rfl, rfl⟩, rfl⟩ := h
  exact ⟨⟨a6, a7⟩, rfl⟩
theorem li_rule : ∀ (l : List (List AV)), (∀ c ∈ l, ∃ p : RuleC, c = p.cs) → ∃ ps : List RuleC, l = ps.map fun p => p.cs
  | [], _ => ⟨[], rfl⟩
  | c :: l, h => by
    obtain ⟨p, rfl⟩ := h c (by simp)
    obtain ⟨ps, rfl⟩ := li_rule l (fun d hd => h d (by simp [hd]))
    exact ⟨p :: ps, rfl⟩
theorem tv_conf {n : Nat} {l : List AV} (h : TV Tryz.prog (n + 5) 27 l) : ∃ p : Conf, l = p.cs ∧ p.ps.length ≤ maxLen ∧ p.rs.length ≤ maxLen := by
  simp only [TV, TVF, Tryz.underlying24, Tryz.underlying25, Tryz.underlying3, Tryz.underlying27, Tryz.underlying23, Tryz.underlying9] at h
  obtain ⟨_, _, ⟨a8, rfl, wa8⟩, ⟨_, _, ⟨a9, rfl, wa9⟩, ⟨_, _, ⟨_, _, ⟨a10, rfl, wa10⟩, ⟨_, _, ⟨a11, rfl, wa11⟩, ⟨_, _, ⟨a12, rfl, wa12⟩, rfl, rfl⟩, rfl⟩, rfl⟩, ⟨_, _, ⟨_, _, ⟨a13, rfl, wa13⟩, ⟨_, _, ⟨a14, rfl, wa14⟩, ⟨_, _, ⟨a15, rfl, wa15⟩, rfl, rfl⟩, rfl⟩, rfl⟩, ⟨_, _, ⟨a16, rfl, wa16, ha16⟩, ⟨_, _, ⟨a17, rfl, wa17, ha17⟩, ⟨_, _, ⟨a18, rfl, wa18⟩, rfl, rfl⟩, rfl⟩, rfl⟩, rfl⟩, rfl⟩, rfl⟩, rfl⟩ := h
  obtain ⟨a16x, rfl⟩ := li_path a16 (fun c hc => tv_path (n := n + 0) (ha16 c hc))
  obtain ⟨a17x, rfl⟩ := li_rule a17 (fun c hc => tv_rule (n := n + 1) (ha17 c hc))
  exact ⟨⟨a8, a9, ⟨a10, a11, a12⟩, ⟨a13, a14, a15⟩, a16x, a17x, a18⟩, rfl, by simpa using wa16, by simpa using wa17⟩
theorem ta_conf {n : Nat} {a : AV} (h : TA Tryz.prog (n + 5) 27 a) : ∃ c : Conf, a = .agg c.cs ∧ c.ps.length ≤ maxLen ∧ c.rs.length ≤ maxLen := by
  simp only [TA, Tryz.underlying27] at h
  obtain ⟨l, rfl, h⟩ := h
  obtain ⟨c, rfl, w⟩ := tv_conf h
  exact ⟨c, rfl, w⟩

theorem confPrints_step (os : Os) (started : os.Started) (H : Type) (enc : TypeId × Value → H) :
    ReturnsInHanded {} Tryz.checked os 3 .any (fun w args => (Rows.confPrintsSpec.pre enc Tryz.prog Tryz.f3 Rows.confPrintsRow.domain false w args ∧ laidMetH Tryz.prog Rows.confPrintsRow.laid w) ∧ sizedMet enc Tryz.prog Tryz.f3 (OpenSpec.ofChange Rows.confPrintsSpec) false w args)
      (Rows.confPrintsSpec.post enc Tryz.prog Tryz.f3 false true false false) := by
  refine hand_and_shaped (C := Tryz.checked) (X := fun w _ => laidMetH Tryz.prog Rows.confPrintsRow.laid w) (fun _ _ _ hh h => h.of_heap hh) own started (by kernel_rfl) Tryz.func3
    (ChangeSpec.witness_shaped (enc := enc) (C := Tryz.checked) (os := os) (X := fun w _ => laidMetH Tryz.prog Rows.confPrintsRow.laid w) false (World.laidAll Tryz.prog os Rows.confPrintsRow.laid) #[.agg #[.string ⟨#[]⟩, .string ⟨#[]⟩, .int .i64 0, .int .i64 0, .int .i64 0, .int .i64 0, .int .i64 0, .int .i64 0, .slice none 0 0, .slice none 0 0, .int .i64 0], .agg #[.string ⟨#[]⟩, .string ⟨#[]⟩, .int .i64 0, .int .i64 0, .int .i64 0, .int .i64 0, .int .i64 0, .int .i64 0, .slice none 0 0, .slice none 0 0, .int .i64 0]] 8 (World.laidAll_os _ _ _)
      (World.shaped_of_ZipB (by kernel_rfl) (by kernel_rfl)) (by kernel_rfl) (by kernel_rfl) (by kernel_rfl)
      (by rw [MakeChecks.laidMetH_plain _ _ _ (by kernel_rfl)]; exact laidMet_laidAll _ (by kernel_rfl) (by kernel_rfl))) ?_
  intro W base args ds gs before hval hW _ _ hX hsh _
  refine row_of_CP (n := 6) (tb := 4) laidOut (by kernel_rfl) (by kernel_rfl) Tryz.underlying4 rfl (fun hg hl => ?_) hval hW (glob_of hX hsh) (fun l hl => ?_)
  · subst hg
    have hl' : ds.length = 2 := hl
    match ds, hl' with
    | [d0, d1], _ => exact ⟨rfl, rfl, rfl⟩
  · rw [Tryz.params3] at hl
    obtain ⟨_, _, h0, ⟨_, _, h1, rfl, rfl⟩, rfl⟩ := hl
    obtain ⟨c, rfl, wc⟩ := ta_conf h0
    obtain ⟨d, rfl, wd⟩ := ta_conf h1
    exact p_ConfPrints c d wc.1 wc.2 wd.1 wd.2
theorem confPrints_row : Rows.ConfPrintsSaid :=
  OpenClaim.holds_of_wide 3 Tryz.f3 rfl rfl rfl rfl rfl rfl rfl ⟨rfl, rfl, rfl, rfl, rfl⟩ rfl rfl rfl rfl rfl (by kernel_rfl) Tryz.func3 (by kernel_rfl)
    (of_decide_eq_true (by kernel_rfl)) (by unfold Func.isWrapper; first | (rw [if_pos (by decide +kernel)]; kernel_rfl) | (rw [if_neg (by decide +kernel)]; exact ⟨rfl, rfl⟩))
    (fun os started H enc _ => confPrints_step os started H enc)
theorem confPrints_holds : Rows.ConfPrintsCardSaid :=
  Claim7.holds_tied_plain_at .later [] [.data, .data, .data, .data, .pinned] true (true, "2cf39f795c6cd5d132a6380c59640f5ede270b6d8ef623d2394df2648c490e51") false confPrints_row (fun _ h => by cases h) (by kernel_rfl) (fun _ h => by cases h) confPrints_row_tie rfl ⟨rfl, rfl⟩ (by kernel_rfl) rfl
    (fun f fn hf hfn => by
      obtain rfl : f = 3 := Option.some.inj ((show Tryz.prog.funcNamed Tryz.f3.name = some 3 by kernel_rfl).symm.trans hf) |>.symm
      obtain rfl : fn = Tryz.f3 := (Option.some.inj (Tryz.func3.symm.trans hfn)).symm
      exact ⟨by kernel_rfl, fun j t ht => by
        rw [Tryz.params3] at ht
        have hm : t ∈ [27, 27] := by simpa using Array.mem_of_getElem? ht
        have hall : ([27, 27].all fun u => !Tryz.prog.wantsStandIn u) = true := by kernel_rfl
        exact (show Tryz.prog.wantsStandIn t = false by simpa using List.all_eq_true.1 hall t hm)⟩)
    (by kernel_rfl)
end Go.Proofs.YtbjmcmgekcmbpaaGreatDoor
