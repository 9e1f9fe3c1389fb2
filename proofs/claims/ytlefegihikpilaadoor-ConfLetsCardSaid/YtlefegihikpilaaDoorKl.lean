import Derived.Test.YtlefegihikpilaaDoorK22
import Derived.Test.YtlefegihikpilaaDoorRows
import Derived.Test.YtlefegihikpilaaDoorCards
import Derived.Test.YtlefegihikpilaaDoorTie
import Derived.LaidMore
import Derived.Lay
import Derived.SevenTiedAt
import Derived.Stop.Joined
import Derived.WalkKit
import Derived.ProofKit
import Derived.OpenShut
import Derived.JoinedCond
/- chapter 21: the row of ConfLets: for every argument the law's call returns true -/
namespace Go.Proofs.YtlefegihikpilaaDoor
set_option linter.all false
open Go.ChangeShapes Go.WideShapes Go.ChangeAt Go.RowKit
set_option maxRecDepth 100000

theorem own : ownKnob Tryd.prog.godebug = none := by kernel_rfl
theorem laidOut : laidOutB Tryd.prog = true := by kernel_rfl
theorem tv_path {n : Nat} {l : List AV} (h : TV Tryd.prog (n + 3) 58 l) : ∃ p : PathC, l = p.cs := by
  simp only [TV, TVF, Tryd.underlying4, Tryd.underlying3, Tryd.underlying56, Tryd.underlying58, Tryd.underlying9] at h
  obtain ⟨_, _, ⟨_, _, ⟨a1, rfl, wa1⟩, ⟨_, _, ⟨a2, rfl, wa2⟩, rfl, rfl⟩, rfl⟩, ⟨_, _, ⟨_, _, ⟨a3, rfl, wa3⟩, ⟨_, _, ⟨a4, rfl, wa4⟩, rfl, rfl⟩, rfl⟩, ⟨_, _, ⟨a5, rfl⟩, rfl, rfl⟩, rfl⟩, rfl⟩ := h
  exact ⟨⟨a1, a2, a3, a4, a5⟩, rfl⟩
theorem li_path : ∀ (l : List (List AV)), (∀ c ∈ l, ∃ p : PathC, c = p.cs) → ∃ ps : List PathC, l = ps.map fun p => p.cs
  | [], _ => ⟨[], rfl⟩
  | c :: l, h => by
    obtain ⟨p, rfl⟩ := h c (by simp)
    obtain ⟨ps, rfl⟩ := li_path l (fun d hd => h d (by simp [hd]))
    exact ⟨p :: ps, rfl⟩
theorem tv_rule {n : Nat} {l : List AV} (h : TV Tryd.prog (n + 2) 81 l) : ∃ p : RuleC, l = p.cs := by
  simp only [TV, TVF, Tryd.underlying4, Tryd.underlying81, Tryd.underlying9] at h
  obtain ⟨_, _, ⟨a6, rfl⟩, ⟨_, _, ⟨a7, rfl, wa7⟩, rfl, rfl⟩, rfl⟩ := h
  exact ⟨⟨a6, a7⟩, rfl⟩
theorem li_rule : ∀ (l : List (List AV)), (∀ c ∈ l, ∃ p : RuleC, c = p.cs) → ∃ ps : List RuleC, l = ps.map fun p => p.cs
  | [], _ => ⟨[], rfl⟩
  | c :: l, h => by
    obtain ⟨p, rfl⟩ := h c (by simp)
    obtain ⟨ps, rfl⟩ := li_rule l (fun d hd => h d (by simp [hd]))
    exact ⟨p :: ps, rfl⟩
theorem tv_conf {n : Nat} {l : List AV} (h : TV Tryd.prog (n + 5) 54 l) : ∃ p : Conf, l = p.cs ∧ p.ps.length ≤ maxLen ∧ p.rs.length ≤ maxLen := by
  simp only [TV, TVF, Tryd.underlying51, Tryd.underlying52, Tryd.underlying3, Tryd.underlying54, Tryd.underlying50, Tryd.underlying9] at h
  obtain ⟨_, _, ⟨a8, rfl, wa8⟩, ⟨_, _, ⟨a9, rfl, wa9⟩, ⟨_, _, ⟨_, _, ⟨a10, rfl, wa10⟩, ⟨_, _, ⟨a11, rfl, wa11⟩, ⟨_, _, ⟨a12, rfl, wa12⟩, rfl, rfl⟩, rfl⟩, rfl⟩, ⟨_, _, ⟨_, _, ⟨a13, rfl, wa13⟩, ⟨_, _, ⟨a14, rfl, wa14⟩, ⟨_, _, ⟨a15, rfl, wa15⟩, rfl, rfl⟩, rfl⟩, rfl⟩, ⟨_, _, ⟨a16, rfl, wa16, ha16⟩, ⟨_, _, ⟨a17, rfl, wa17, ha17⟩, ⟨_, _, ⟨a18, rfl, wa18⟩, rfl, rfl⟩, rfl⟩, rfl⟩, rfl⟩, rfl⟩, rfl⟩, rfl⟩ := h
  obtain ⟨a16x, rfl⟩ := li_path a16 (fun c hc => tv_path (n := n + 0) (ha16 c hc))
  obtain ⟨a17x, rfl⟩ := li_rule a17 (fun c hc => tv_rule (n := n + 1) (ha17 c hc))
  exact ⟨⟨a8, a9, ⟨a10, a11, a12⟩, ⟨a13, a14, a15⟩, a16x, a17x, a18⟩, rfl, by simpa using wa16, by simpa using wa17⟩
theorem ta_conf {n : Nat} {a : AV} (h : TA Tryd.prog (n + 5) 54 a) : ∃ c : Conf, a = .agg c.cs ∧ c.ps.length ≤ maxLen ∧ c.rs.length ≤ maxLen := by
  simp only [TA, Tryd.underlying54] at h
  obtain ⟨l, rfl, h⟩ := h
  obtain ⟨c, rfl, w⟩ := tv_conf h
  exact ⟨c, rfl, w⟩
theorem ta_path {n : Nat} {a : AV} (h : TA Tryd.prog (n + 3) 58 a) : ∃ c : PathC, a = .agg c.cs := by
  simp only [TA, Tryd.underlying58] at h
  obtain ⟨l, rfl, h⟩ := h
  obtain ⟨c, rfl⟩ := tv_path h
  exact ⟨c, rfl⟩
theorem ta_int {n : Nat} {a : AV} (h : TA Tryd.prog (n + 1) 3 a) : ∃ k, a = .int .i64 k := by
  simp only [TA, TV, Tryd.underlying3] at h
  obtain ⟨k, h1, _⟩ := h
  exact ⟨k, by simpa using h1⟩

theorem confLets_step (os : Os) (started : os.Started) (H : Type) (enc : TypeId × Value → H) :
    ReturnsInHanded {} Tryd.checked os 4 .any (fun w args => (Rows.confLetsSpec.pre enc Tryd.prog Tryd.f4 Rows.confLetsRow.domain false w args ∧ laidMetH Tryd.prog Rows.confLetsRow.laid w) ∧ sizedMet enc Tryd.prog Tryd.f4 (OpenSpec.ofChange Rows.confLetsSpec) false w args)
      (Rows.confLetsSpec.post enc Tryd.prog Tryd.f4 false true false false) := by
  refine hand_and_shaped (C := Tryd.checked) (X := fun w _ => laidMetH Tryd.prog Rows.confLetsRow.laid w) (fun _ _ _ hh h => h.of_heap hh) own started (by kernel_rfl) Tryd.func4
    (ChangeSpec.witness_shaped (enc := enc) (C := Tryd.checked) (os := os) (X := fun w _ => laidMetH Tryd.prog Rows.confLetsRow.laid w) false (World.laidAll Tryd.prog os Rows.confLetsRow.laid) #[.agg #[.string ⟨#[]⟩, .string ⟨#[]⟩, .int .i64 0, .int .i64 0, .int .i64 0, .int .i64 0, .int .i64 0, .int .i64 0, .slice none 0 0, .slice none 0 0, .int .i64 0], .agg #[.string ⟨#[]⟩, .int .i64 0, .string ⟨#[]⟩, .int .i64 0, .bool false], .int .i64 0, .int .i64 0] 8 (World.laidAll_os _ _ _)
      (World.shaped_of_ZipB (by kernel_rfl) (by kernel_rfl)) (by kernel_rfl) (by kernel_rfl) (by kernel_rfl)
      (by rw [MakeChecks.laidMetH_plain _ _ _ (by kernel_rfl)]; exact laidMet_laidAll _ (by kernel_rfl) (by kernel_rfl))) ?_
  intro W base args ds gs before hval hW _ _ hX hsh _
  refine row_of_CP (n := 6) (tb := 4) laidOut (by kernel_rfl) (by kernel_rfl) Tryd.underlying4 rfl (fun hg hl => ?_) hval hW (glob_of hX hsh) (fun l hl => ?_)
  · subst hg
    have hl' : ds.length = 4 := hl
    match ds, hl' with
    | [d0, d1, d2, d3], _ => exact ⟨rfl, rfl, rfl⟩
  · rw [Tryd.params4] at hl
    obtain ⟨_, _, h0, ⟨_, _, h1, ⟨_, _, h2, ⟨_, _, h3, rfl, rfl⟩, rfl⟩, rfl⟩, rfl⟩ := hl
    obtain ⟨c, rfl, wc⟩ := ta_conf h0
    obtain ⟨x, rfl⟩ := ta_path h1
    obtain ⟨side, rfl⟩ := ta_int h2
    obtain ⟨n, rfl⟩ := ta_int h3
    exact p_ConfLets c x side n wc.1 wc.2
theorem confLets_row : Rows.ConfLetsSaid :=
  OpenClaim.holds_of_wide 4 Tryd.f4 rfl rfl rfl rfl rfl rfl rfl ⟨rfl, rfl, rfl, rfl, rfl⟩ rfl rfl rfl rfl rfl (by kernel_rfl) Tryd.func4 (by kernel_rfl)
    (of_decide_eq_true (by kernel_rfl)) (by unfold Func.isWrapper; first | (rw [if_pos (by decide +kernel)]; kernel_rfl) | (rw [if_neg (by decide +kernel)]; exact ⟨rfl, rfl⟩))
    (fun os started H enc _ => confLets_step os started H enc)
theorem confLets_holds : Rows.ConfLetsCardSaid :=
  Claim7.holds_tied_plain_at .later [] [.data, .data, .data, .data, .pinned] true (true, "c2e65137e3355d6f7898e3e3816d2eb140a2c2d136cc123ce46a443267c75b70") false confLets_row (fun _ h => by cases h) (by kernel_rfl) (fun _ h => by cases h) confLets_row_tie rfl ⟨rfl, rfl⟩ (by kernel_rfl) rfl
    (fun f fn hf hfn => by
      obtain rfl : f = 4 := Option.some.inj ((show Tryd.prog.funcNamed Tryd.f4.name = some 4 by kernel_rfl).symm.trans hf) |>.symm
      obtain rfl : fn = Tryd.f4 := (Option.some.inj (Tryd.func4.symm.trans hfn)).symm
      exact ⟨by kernel_rfl, fun j t ht => by
        rw [Tryd.params4] at ht
        have hm : t ∈ [54, 58, 3, 3] := by simpa using Array.mem_of_getElem? ht
        have hall : ([54, 58, 3, 3].all fun u => !Tryd.prog.wantsStandIn u) = true := by kernel_rfl
        exact (show Tryd.prog.wantsStandIn t = false by simpa using List.all_eq_true.1 hall t hm)⟩)
    (by kernel_rfl)
end Go.Proofs.YtlefegihikpilaaDoor
