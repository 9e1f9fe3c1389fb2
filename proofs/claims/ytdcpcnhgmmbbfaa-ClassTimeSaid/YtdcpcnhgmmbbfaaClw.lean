/- chapter 25: the laws' rows -/
import Derived.Test.YtdcpcnhgmmbbfaaClh
import Derived.Test.YtdcpcnhgmmbbfaaMo
import Derived.Test.YtdcpcnhgmmbbfaaRows
import Derived.WalkKit
import Derived.ProofKit
import Derived.OpenShut
import Derived.JoinedCond
namespace Go.Proofs.Ytdcpcnhgmmbbfaa
set_option linter.all false
open Go.ChangeShapes Go.WideShapes Go.ChangeAt Go.RowKit
set_option maxRecDepth 100000

theorem own : ownKnob Try.prog.godebug = none := by kernel_rfl
theorem laidOut : laidOutB Try.prog = true := by kernel_rfl
theorem tv_pk {n : Nat} {l : List AV} (h : TV Try.prog (n + 2) 39 l) : ∃ p : Pk, l = p.cs := by
  simp only [TV, TVF, Try.underlying39, Try.underlying3, Try.underlying4] at h
  obtain ⟨_, _, ⟨a0, rfl, w0⟩, ⟨_, _, ⟨a1, rfl, w1⟩, ⟨_, _, ⟨a2, rfl, w2⟩, ⟨_, _, ⟨a3, rfl⟩, ⟨_, _, ⟨a4, rfl⟩, ⟨_, _, ⟨a5, rfl⟩, ⟨_, _, ⟨a6, rfl⟩, ⟨_, _, ⟨a7, rfl⟩, rfl, rfl⟩, rfl⟩, rfl⟩, rfl⟩, rfl⟩, rfl⟩, rfl⟩, rfl⟩ := h
  exact ⟨⟨a0, a1, a2, a3, a4, a5, a6, a7⟩, rfl⟩
theorem tv_ch {n : Nat} {l : List AV} (h : TV Try.prog (n + 2) 23 l) : ∃ p : Ch, l = p.cs := by
  simp only [TV, TVF, Try.underlying23, Try.underlying3, Try.underlying4] at h
  obtain ⟨_, _, ⟨a0, rfl⟩, ⟨_, _, ⟨a1, rfl⟩, ⟨_, _, ⟨a2, rfl⟩, ⟨_, _, ⟨a3, rfl⟩, ⟨_, _, ⟨a4, rfl, w4⟩, ⟨_, _, ⟨a5, rfl, w5⟩, ⟨_, _, ⟨a6, rfl, w6⟩, ⟨_, _, ⟨a7, rfl, w7⟩, ⟨_, _, ⟨a8, rfl, w8⟩, ⟨_, _, ⟨a9, rfl, w9⟩, ⟨_, _, ⟨a10, rfl, w10⟩, ⟨_, _, ⟨a11, rfl, w11⟩, ⟨_, _, ⟨a12, rfl, w12⟩, rfl, rfl⟩, rfl⟩, rfl⟩, rfl⟩, rfl⟩, rfl⟩, rfl⟩, rfl⟩, rfl⟩, rfl⟩, rfl⟩, rfl⟩, rfl⟩ := h
  exact ⟨⟨a0, a1, a2, a3, a4, a5, a6, a7, a8, a9, a10, a11, a12⟩, rfl⟩
theorem ta_ch {n : Nat} {a : AV} (h : TA Try.prog (n + 2) 23 a) : ∃ c : Ch, a = .agg c.cs := by
  simp only [TA, Try.underlying23] at h
  obtain ⟨l, rfl, h⟩ := h
  obtain ⟨c, rfl⟩ := tv_ch h
  exact ⟨c, rfl⟩
theorem list_cs : ∀ (l : List (List AV)), (∀ c ∈ l, ∃ p : Pk, c = p.cs) → ∃ ps : List Pk, l = css ps
  | [], _ => ⟨[], rfl⟩
  | c :: l, h => by
    obtain ⟨p, rfl⟩ := h c (by simp)
    obtain ⟨ps, rfl⟩ := list_cs l (fun d hd => h d (by simp [hd]))
    exact ⟨p :: ps, rfl⟩
theorem ta_pks {n : Nat} {a : AV} (h : TA Try.prog (n + 3) 24 a) : ∃ ps : List Pk, a = .sl none 8 (css ps) := by
  have hc : Try.prog.cellsOf 39 = 8 := by kernel_rfl
  simp only [TA, TV, Try.underlying24, hc] at h
  obtain ⟨els, h1, _, h2⟩ := h
  obtain ⟨ps, rfl⟩ := list_cs els (fun c hc => tv_pk (h2 c hc))
  exact ⟨ps, by simpa using h1⟩
theorem ta_int {n : Nat} {a : AV} (h : TA Try.prog (n + 1) 3 a) : ∃ k, a = .int .i64 k := by
  simp only [TA, TV, Try.underlying3] at h
  obtain ⟨k, h1, _⟩ := h
  exact ⟨k, by simpa using h1⟩

theorem classTime_step (os : Os) (started : os.Started) (H : Type) (enc : TypeId × Value → H) :
    ReturnsInHanded {} Try.checked os 6 .any (Rows.classTimeSpec.pre6 enc Try.prog Try.f6 Rows.classTimeRow.domain false) (Rows.classTimeSpec.post enc Try.prog Try.f6 false true false false) := by
  refine returnsInHanded_of_change (C := Try.checked) own started (by kernel_rfl) Try.func6
    (ChangeSpec.witness6 (enc := enc) (C := Try.checked) false ⟨#[], #[.agg #[.bool false, .bool false, .bool false, .bool false, .int .i64 0, .int .i64 0, .int .i64 0, .int .i64 0, .int .i64 0, .int .i64 0, .int .i64 0, .int .i64 0, .int .i64 0], .slice none 0 0], []⟩ 8 (by kernel_rfl) (by kernel_rfl) (by kernel_rfl) (by kernel_rfl)) ?_
  intro W base args ds gs before hval hW _ _
  refine row_of_CP (n := 6) (tb := 4) laidOut (by kernel_rfl) (by kernel_rfl) Try.underlying4 rfl (fun hg hl => ?_) hval hW (fun l hl => ?_)
  · subst hg
    have hl' : ds.length = 2 := hl
    match ds, hl' with
    | [d0, d1], _ => exact ⟨rfl, rfl, rfl⟩
  · rw [Try.params6] at hl
    obtain ⟨_, _, h0, ⟨_, _, h1, rfl, rfl⟩, rfl⟩ := hl
    obtain ⟨c, rfl⟩ := ta_ch h0
    obtain ⟨ps, rfl⟩ := ta_pks h1
    exact p_ClassTime c ps
theorem classTime_holds : Rows.ClassTimeSaid :=
  OpenClaim.holds_of_wide 6 Try.f6 rfl rfl rfl rfl rfl rfl rfl ⟨rfl, rfl, rfl, rfl, rfl⟩ rfl rfl rfl rfl rfl (by kernel_rfl) Try.func6 (by kernel_rfl)
    (of_decide_eq_true (by kernel_rfl)) (by unfold Func.isWrapper; first | (rw [if_pos (by decide +kernel)]; kernel_rfl) | (rw [if_neg (by decide +kernel)]; exact ⟨rfl, rfl⟩))
    (fun os started H enc _ => classTime_step os started H enc)
end Go.Proofs.Ytdcpcnhgmmbbfaa
