/-
  No cell of these rows narrows 'for every input' (looked for: loops, veiled, ifaces, maps, wideKeys, modest, calm, conditions, laid).
  DERIVED. THE GIVEN ROWS OF THIS SEAT. 4 by the template 'for every input the law returns true; each argument reads behind the call as it read before'; 0 by the template 'total and deterministic' (their statements: YtdcpcnhgmmbbfaaTotals.lean).
  GIVEN WITH THE SEED: the statements are not yours to turn. If you find one false, say at which input.
  Laid BY PROGRAM, IN A SANDBOX (cutbox-rows.mjs): the forced cells as the released guide's own fill.sh prints them over the translation 520a8710d7aa0c2e… (all of the seat's roots in one cut). By AI agents, Wed Nov 11 2026. No macro, syntax, notation, axiom, sorry.
-/
import Derived.Test.YtdcpcnhgmmbbfaaChecked
import GoSem.Claim
import GoSem.ClaimJoined
import GoSem.ClaimMapViews
import Derived.JoinedTies
import Derived.KernelRfl
namespace Go.Proofs.Ytdcpcnhgmmbbfaa
/- THE CELL 'sum', in the pinned program and in every row, IS THE sha256 OF THE DUMP (.gsa) THAT YtdcpcnhgmmbbfaaProg.lean LOADS. Nothing in Lean hashes anything: it is a label: what it is worth is what the hold of that sum in a sandbox is worth. -/
noncomputable def Try.pinned : Pinned := { name := "ytdcpcnhgmmbbfaa", sum := "520a8710d7aa0c2e1debd3675acc981301bbf5c3abf3a9fdc8f79abb24a92579", checked := Try.checked }
namespace Rows
def none {H : Type} : Left H := { results := [], args := [] }

/-- 'liglaw25.ClassTells': WHATEVER THE INPUT: true; the input reads as it did. -/
def classTellsSpec : ChangeSpec := { name := "classTells", fn := fun _ => fun
  | [d1, d2, d3] => { results := [.lit (.bool true)], args := [d1, d2, d3] }
  | _ => none }
def classTellsRow : OpenClaim := { program := "ytdcpcnhgmmbbfaa", sum := "520a8710d7aa0c2e1debd3675acc981301bbf5c3abf3a9fdc8f79abb24a92579", func := "lighterman/liglaw25.ClassTells", spec := "classTells", apart := false }
def ClassTellsSaid : Prop := classTellsRow.holds Try.pinned (OpenSpec.ofChange classTellsSpec)

/-- ITS FALSE NEIGHBOUR: 'it returns false'. Refute it at one input. -/
def classTellsWrong : ChangeSpec := { name := "classTells", fn := fun _ => fun
  | [d1, d2, d3] => { results := [.lit (.bool false)], args := [d1, d2, d3] }
  | _ => none }
def ClassTellsWrongFalsely : Prop := classTellsRow.holds Try.pinned (OpenSpec.ofChange classTellsWrong)

/-- 'liglaw25.ClassRuns': WHATEVER THE INPUT: true; the input reads as it did. -/
def classRunsSpec : ChangeSpec := { name := "classRuns", fn := fun _ => fun
  | [d1, d2] => { results := [.lit (.bool true)], args := [d1, d2] }
  | _ => none }
def classRunsRow : OpenClaim := { program := "ytdcpcnhgmmbbfaa", sum := "520a8710d7aa0c2e1debd3675acc981301bbf5c3abf3a9fdc8f79abb24a92579", func := "lighterman/liglaw25.ClassRuns", spec := "classRuns", apart := false }
def ClassRunsSaid : Prop := classRunsRow.holds Try.pinned (OpenSpec.ofChange classRunsSpec)

/-- ITS FALSE NEIGHBOUR: 'it returns false'. Refute it at one input. -/
def classRunsWrong : ChangeSpec := { name := "classRuns", fn := fun _ => fun
  | [d1, d2] => { results := [.lit (.bool false)], args := [d1, d2] }
  | _ => none }
def ClassRunsWrongFalsely : Prop := classRunsRow.holds Try.pinned (OpenSpec.ofChange classRunsWrong)

/-- 'liglaw25.ClassAlone': WHATEVER THE INPUT: true; the input reads as it did. -/
def classAloneSpec : ChangeSpec := { name := "classAlone", fn := fun _ => fun
  | [d1, d2] => { results := [.lit (.bool true)], args := [d1, d2] }
  | _ => none }
def classAloneRow : OpenClaim := { program := "ytdcpcnhgmmbbfaa", sum := "520a8710d7aa0c2e1debd3675acc981301bbf5c3abf3a9fdc8f79abb24a92579", func := "lighterman/liglaw25.ClassAlone", spec := "classAlone", apart := false }
def ClassAloneSaid : Prop := classAloneRow.holds Try.pinned (OpenSpec.ofChange classAloneSpec)

/-- ITS FALSE NEIGHBOUR: 'it returns false'. Refute it at one input. -/
def classAloneWrong : ChangeSpec := { name := "classAlone", fn := fun _ => fun
  | [d1, d2] => { results := [.lit (.bool false)], args := [d1, d2] }
  | _ => none }
def ClassAloneWrongFalsely : Prop := classAloneRow.holds Try.pinned (OpenSpec.ofChange classAloneWrong)

/-- 'liglaw25.ClassTime': WHATEVER THE INPUT: true; the input reads as it did. -/
def classTimeSpec : ChangeSpec := { name := "classTime", fn := fun _ => fun
  | [d1, d2] => { results := [.lit (.bool true)], args := [d1, d2] }
  | _ => none }
def classTimeRow : OpenClaim := { program := "ytdcpcnhgmmbbfaa", sum := "520a8710d7aa0c2e1debd3675acc981301bbf5c3abf3a9fdc8f79abb24a92579", func := "lighterman/liglaw25.ClassTime", spec := "classTime", apart := false }
def ClassTimeSaid : Prop := classTimeRow.holds Try.pinned (OpenSpec.ofChange classTimeSpec)

/-- ITS FALSE NEIGHBOUR: 'it returns false'. Refute it at one input. -/
def classTimeWrong : ChangeSpec := { name := "classTime", fn := fun _ => fun
  | [d1, d2] => { results := [.lit (.bool false)], args := [d1, d2] }
  | _ => none }
def ClassTimeWrongFalsely : Prop := classTimeRow.holds Try.pinned (OpenSpec.ofChange classTimeWrong)

/- THE SECOND FORM. 'bulk': how many values and letters a reading holds, each counted each time it is reached (what is shared counts as often as it is met; a slice's spare places count too). A statement '..UptoSaid' is the law's where the arguments, and the package variables that the reading takes, are together of bulk at most 1048576: NARROWER than '..Said'. Prove '..Said' where nothing that the law and all that it calls make is longer than what came in: it says more and counts as full. Else prove '..UptoSaid'. A law counts once. -/
mutual
def uptoBulk {H : Type} : DataW H → Nat
  | .lit (.string bytes) => bytes.length + 1
  | .lit _ => 1
  | .nil => 1
  | .ptr d => uptoBulk d + 1
  | .slice elems spare => uptoBulkAll elems + uptoBulkAll spare + 1
  | .agg parts => uptoBulkAll parts + 1
  | .iface _ d => uptoBulk d + 1
  | .map entries => uptoBulkEntries entries + 1
  | .held _ => 1
def uptoBulkAll {H : Type} : List (DataW H) → Nat
  | [] => 0
  | d :: r => uptoBulk d + uptoBulkAll r
def uptoBulkEntries {H : Type} : List (Lit × DataW H) → Nat
  | [] => 0
  | x :: r => uptoBulkEntry x + uptoBulkEntries r
def uptoBulkEntry {H : Type} : Lit × DataW H → Nat
  | (.string bytes, d) => bytes.length + uptoBulk d + 1
  | (_, d) => uptoBulk d + 1
 end
def uptoSmall : (H : Type) → List (DataW H) → Bool := fun _ ds => decide (uptoBulkAll ds ≤ 1048576)
def OpenSpec.upto (s : _root_.Go.ChangeSpec) : _root_.Go.OpenSpec := { _root_.Go.OpenSpec.ofChange s with cond := some uptoSmall }

/-- 'liglaw25.ClassTells', WHERE WHAT IT READS IS OF BULK AT MOST 1048576: true; the input reads as it did. -/
def classTellsUptoRow : OpenClaim := { program := "ytdcpcnhgmmbbfaa", sum := "520a8710d7aa0c2e1debd3675acc981301bbf5c3abf3a9fdc8f79abb24a92579", func := "lighterman/liglaw25.ClassTells", spec := "classTells", apart := false, narrowed := true }
def ClassTellsUptoSaid : Prop := classTellsUptoRow.holds Try.pinned (OpenSpec.upto classTellsSpec)

/-- 'liglaw25.ClassRuns', WHERE WHAT IT READS IS OF BULK AT MOST 1048576: true; the input reads as it did. -/
def classRunsUptoRow : OpenClaim := { program := "ytdcpcnhgmmbbfaa", sum := "520a8710d7aa0c2e1debd3675acc981301bbf5c3abf3a9fdc8f79abb24a92579", func := "lighterman/liglaw25.ClassRuns", spec := "classRuns", apart := false, narrowed := true }
def ClassRunsUptoSaid : Prop := classRunsUptoRow.holds Try.pinned (OpenSpec.upto classRunsSpec)

/-- 'liglaw25.ClassAlone', WHERE WHAT IT READS IS OF BULK AT MOST 1048576: true; the input reads as it did. -/
def classAloneUptoRow : OpenClaim := { program := "ytdcpcnhgmmbbfaa", sum := "520a8710d7aa0c2e1debd3675acc981301bbf5c3abf3a9fdc8f79abb24a92579", func := "lighterman/liglaw25.ClassAlone", spec := "classAlone", apart := false, narrowed := true }
def ClassAloneUptoSaid : Prop := classAloneUptoRow.holds Try.pinned (OpenSpec.upto classAloneSpec)

/-- 'liglaw25.ClassTime', WHERE WHAT IT READS IS OF BULK AT MOST 1048576: true; the input reads as it did. -/
def classTimeUptoRow : OpenClaim := { program := "ytdcpcnhgmmbbfaa", sum := "520a8710d7aa0c2e1debd3675acc981301bbf5c3abf3a9fdc8f79abb24a92579", func := "lighterman/liglaw25.ClassTime", spec := "classTime", apart := false, narrowed := true }
def ClassTimeUptoSaid : Prop := classTimeUptoRow.holds Try.pinned (OpenSpec.upto classTimeSpec)

end Rows
end Go.Proofs.Ytdcpcnhgmmbbfaa
