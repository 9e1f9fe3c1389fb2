/-
  No cell of these rows narrows 'for every input' (looked for: loops, veiled, ifaces, maps, wideKeys, modest, calm, conditions, laid).
  DERIVED. THE GIVEN ROWS OF THIS SEAT. 2 by the template 'for every input the law returns true; each argument reads behind the call as it read before'; 0 by the template 'total and deterministic' (their statements: YtedcagoilpaafaaTotals.lean).
  GIVEN WITH THE SEED: the statements are not yours to turn. If you find one false, say at which input.
  Laid BY PROGRAM, IN A SANDBOX (cutbox-rows.mjs): the forced cells as the released guide's own fill.sh prints them over the translation 36f5c753a82c2f4b… (all of the seat's roots in one cut). By AI agents, Wed Nov 11 2026. No macro, syntax, notation, axiom, sorry.
-/
import Derived.Test.YtedcagoilpaafaaChecked
import GoSem.Claim
import GoSem.ClaimJoined
import GoSem.ClaimMapViews
import Derived.JoinedTies
import Derived.KernelRfl
namespace Go.Proofs.Ytedcagoilpaafaa
/- THE CELL 'sum', in the pinned program and in every row, IS THE sha256 OF THE DUMP (.gsa) THAT YtedcagoilpaafaaProg.lean LOADS. Nothing in Lean hashes anything: it is a label: what it is worth is what the hold of that sum in a sandbox is worth. -/
noncomputable def Try.pinned : Pinned := { name := "ytedcagoilpaafaa", sum := "36f5c753a82c2f4bd84db68bccd59a462216630c63054c15ba4af4ec98904274", checked := Try.checked }
namespace Rows
def none {H : Type} : Left H := { results := [], args := [] }

/-- 'liglaw15.EndsTells': WHATEVER THE INPUT: true; the input reads as it did. -/
def endsTellsSpec : ChangeSpec := { name := "endsTells", fn := fun _ => fun
  | [d1, d2] => { results := [.lit (.bool true)], args := [d1, d2] }
  | _ => none }
def endsTellsRow : OpenClaim := { program := "ytedcagoilpaafaa", sum := "36f5c753a82c2f4bd84db68bccd59a462216630c63054c15ba4af4ec98904274", func := "lighterman/liglaw15.EndsTells", spec := "endsTells", apart := false }
def EndsTellsSaid : Prop := endsTellsRow.holds Try.pinned (OpenSpec.ofChange endsTellsSpec)

/-- ITS FALSE NEIGHBOUR: 'it returns false'. Refute it at one input. -/
def endsTellsWrong : ChangeSpec := { name := "endsTells", fn := fun _ => fun
  | [d1, d2] => { results := [.lit (.bool false)], args := [d1, d2] }
  | _ => none }
def EndsTellsWrongFalsely : Prop := endsTellsRow.holds Try.pinned (OpenSpec.ofChange endsTellsWrong)

/-- 'liglaw15.EndsBack': WHATEVER THE INPUT: true; the input reads as it did. -/
def endsBackSpec : ChangeSpec := { name := "endsBack", fn := fun _ => fun
  | [d1, d2] => { results := [.lit (.bool true)], args := [d1, d2] }
  | _ => none }
def endsBackRow : OpenClaim := { program := "ytedcagoilpaafaa", sum := "36f5c753a82c2f4bd84db68bccd59a462216630c63054c15ba4af4ec98904274", func := "lighterman/liglaw15.EndsBack", spec := "endsBack", apart := false }
def EndsBackSaid : Prop := endsBackRow.holds Try.pinned (OpenSpec.ofChange endsBackSpec)

/-- ITS FALSE NEIGHBOUR: 'it returns false'. Refute it at one input. -/
def endsBackWrong : ChangeSpec := { name := "endsBack", fn := fun _ => fun
  | [d1, d2] => { results := [.lit (.bool false)], args := [d1, d2] }
  | _ => none }
def EndsBackWrongFalsely : Prop := endsBackRow.holds Try.pinned (OpenSpec.ofChange endsBackWrong)

/- THE SECOND FORM. 'bulk': how many values and letters a reading holds, each counted each time it is reached (what is shared counts as often as it is met; a slice's spare places count too). A statement '..UptoSaid' is the law's where the arguments, and the package variables that the reading takes, are together of bulk at most 1048576: NARROWER than '..Said'. Prove '..Said' where nothing that the law and all that it calls make is longer than what came in: it says more and counts as full. Else prove '..UptoSaid'. A law counts once. -/
mutual
def uptoBulk {H : Type} : DataW H → Nat
  | .lit (.string bytes) => bytes.length + 1
  | .lit _ => 1
  | .nil => 1
  | .ptr d => uptoBulk d + 1
  | .slice elems spare => uptoBulkAll elems + uptoBulkAll spare + 1
  | .agg parts => uptoBulkAll parts + 1
  | .iface _ d => uptoBulk d + 1
  | .map entries => uptoBulkEntries entries + 1
  | .held _ => 1
def uptoBulkAll {H : Type} : List (DataW H) → Nat
  | [] => 0
  | d :: r => uptoBulk d + uptoBulkAll r
def uptoBulkEntries {H : Type} : List (Lit × DataW H) → Nat
  | [] => 0
  | x :: r => uptoBulkEntry x + uptoBulkEntries r
def uptoBulkEntry {H : Type} : Lit × DataW H → Nat
  | (.string bytes, d) => bytes.length + uptoBulk d + 1
  | (_, d) => uptoBulk d + 1
 end
def uptoSmall : (H : Type) → List (DataW H) → Bool := fun _ ds => decide (uptoBulkAll ds ≤ 1048576)
def OpenSpec.upto (s : _root_.Go.ChangeSpec) : _root_.Go.OpenSpec := { _root_.Go.OpenSpec.ofChange s with cond := some uptoSmall }

/-- 'liglaw15.EndsTells', WHERE WHAT IT READS IS OF BULK AT MOST 1048576: true; the input reads as it did. -/
def endsTellsUptoRow : OpenClaim := { program := "ytedcagoilpaafaa", sum := "36f5c753a82c2f4bd84db68bccd59a462216630c63054c15ba4af4ec98904274", func := "lighterman/liglaw15.EndsTells", spec := "endsTells", apart := false, narrowed := true }
def EndsTellsUptoSaid : Prop := endsTellsUptoRow.holds Try.pinned (OpenSpec.upto endsTellsSpec)

/-- 'liglaw15.EndsBack', WHERE WHAT IT READS IS OF BULK AT MOST 1048576: true; the input reads as it did. -/
def endsBackUptoRow : OpenClaim := { program := "ytedcagoilpaafaa", sum := "36f5c753a82c2f4bd84db68bccd59a462216630c63054c15ba4af4ec98904274", func := "lighterman/liglaw15.EndsBack", spec := "endsBack", apart := false, narrowed := true }
def EndsBackUptoSaid : Prop := endsBackUptoRow.holds Try.pinned (OpenSpec.upto endsBackSpec)

end Rows
end Go.Proofs.Ytedcagoilpaafaa
