/-
  No cell of these rows narrows 'for every input' (looked for: loops, veiled, ifaces, maps, wideKeys, modest, calm, conditions, laid).
  DERIVED. THE GIVEN ROWS OF THIS SEAT. 5 by the template 'for every input the law returns true; each argument reads behind the call as it read before'; 0 by the template 'total and deterministic' (their statements: YtobopbjedojebaaTotals.lean).
  GIVEN WITH THE SEED: the statements are not yours to turn. If you find one false, say at which input.
  Laid BY PROGRAM, IN A SANDBOX (cutbox-rows.mjs): the forced cells as the released guide's own fill.sh prints them over the translation d8a4e7172b2b9739… (all of the seat's roots in one cut). By AI agents, Wed Nov 11 2026. No macro, syntax, notation, axiom, sorry.
-/
import Derived.Test.YtobopbjedojebaaChecked
import GoSem.Claim
import GoSem.ClaimJoined
import GoSem.ClaimMapViews
import Derived.JoinedTies
import Derived.KernelRfl
namespace Go.Proofs.Ytobopbjedojebaa
/- THE CELL 'sum', in the pinned program and in every row, IS THE sha256 OF THE DUMP (.gsa) THAT YtobopbjedojebaaProg.lean LOADS. Nothing in Lean hashes anything: it is a label: what it is worth is what the hold of that sum in a sandbox is worth. -/
noncomputable def Try.pinned : Pinned := { name := "ytobopbjedojebaa", sum := "d8a4e7172b2b9739a78bd21a31a97aac2561219ffd5c78269b5413142d1dd7ac", checked := Try.checked }
namespace Rows
def none {H : Type} : Left H := { results := [], args := [] }

/-- 'liglaw22.LifeSides': WHATEVER THE INPUT: true; the input reads as it did. -/
def lifeSidesSpec : ChangeSpec := { name := "lifeSides", fn := fun _ => fun
  | [d1, d2] => { results := [.lit (.bool true)], args := [d1, d2] }
  | _ => none }
def lifeSidesRow : OpenClaim := { program := "ytobopbjedojebaa", sum := "d8a4e7172b2b9739a78bd21a31a97aac2561219ffd5c78269b5413142d1dd7ac", func := "lighterman/liglaw22.LifeSides", spec := "lifeSides", unfollowed := true, recurses := true, plainKeys := false, apart := false }
def LifeSidesSaid : Prop := lifeSidesRow.holds Try.pinned (OpenSpec.ofChange lifeSidesSpec)

/-- ITS FALSE NEIGHBOUR: 'it returns false'. Refute it at one input. -/
def lifeSidesWrong : ChangeSpec := { name := "lifeSides", fn := fun _ => fun
  | [d1, d2] => { results := [.lit (.bool false)], args := [d1, d2] }
  | _ => none }
def LifeSidesWrongFalsely : Prop := lifeSidesRow.holds Try.pinned (OpenSpec.ofChange lifeSidesWrong)

/-- 'liglaw22.LifeFolds': WHATEVER THE INPUT: true; the input reads as it did. -/
def lifeFoldsSpec : ChangeSpec := { name := "lifeFolds", fn := fun _ => fun
  | [d1, d2] => { results := [.lit (.bool true)], args := [d1, d2] }
  | _ => none }
def lifeFoldsRow : OpenClaim := { program := "ytobopbjedojebaa", sum := "d8a4e7172b2b9739a78bd21a31a97aac2561219ffd5c78269b5413142d1dd7ac", func := "lighterman/liglaw22.LifeFolds", spec := "lifeFolds", unfollowed := true, recurses := true, plainKeys := false, apart := false }
def LifeFoldsSaid : Prop := lifeFoldsRow.holds Try.pinned (OpenSpec.ofChange lifeFoldsSpec)

/-- ITS FALSE NEIGHBOUR: 'it returns false'. Refute it at one input. -/
def lifeFoldsWrong : ChangeSpec := { name := "lifeFolds", fn := fun _ => fun
  | [d1, d2] => { results := [.lit (.bool false)], args := [d1, d2] }
  | _ => none }
def LifeFoldsWrongFalsely : Prop := lifeFoldsRow.holds Try.pinned (OpenSpec.ofChange lifeFoldsWrong)

/-- 'liglaw22.LifeTwice': WHATEVER THE INPUT: true; the input reads as it did. -/
def lifeTwiceSpec : ChangeSpec := { name := "lifeTwice", fn := fun _ => fun
  | [d] => { results := [.lit (.bool true)], args := [d] }
  | _ => none }
def lifeTwiceRow : OpenClaim := { program := "ytobopbjedojebaa", sum := "d8a4e7172b2b9739a78bd21a31a97aac2561219ffd5c78269b5413142d1dd7ac", func := "lighterman/liglaw22.LifeTwice", spec := "lifeTwice", unfollowed := true, recurses := true, plainKeys := false, apart := false }
def LifeTwiceSaid : Prop := lifeTwiceRow.holds Try.pinned (OpenSpec.ofChange lifeTwiceSpec)

/-- ITS FALSE NEIGHBOUR: 'it returns false'. Refute it at one input. -/
def lifeTwiceWrong : ChangeSpec := { name := "lifeTwice", fn := fun _ => fun
  | [d] => { results := [.lit (.bool false)], args := [d] }
  | _ => none }
def LifeTwiceWrongFalsely : Prop := lifeTwiceRow.holds Try.pinned (OpenSpec.ofChange lifeTwiceWrong)

/-- 'liglaw22.LifeApart': WHATEVER THE INPUT: true; the input reads as it did. -/
def lifeApartSpec : ChangeSpec := { name := "lifeApart", fn := fun _ => fun
  | [d1, d2] => { results := [.lit (.bool true)], args := [d1, d2] }
  | _ => none }
def lifeApartRow : OpenClaim := { program := "ytobopbjedojebaa", sum := "d8a4e7172b2b9739a78bd21a31a97aac2561219ffd5c78269b5413142d1dd7ac", func := "lighterman/liglaw22.LifeApart", spec := "lifeApart", unfollowed := true, recurses := true, plainKeys := false, apart := false }
def LifeApartSaid : Prop := lifeApartRow.holds Try.pinned (OpenSpec.ofChange lifeApartSpec)

/-- ITS FALSE NEIGHBOUR: 'it returns false'. Refute it at one input. -/
def lifeApartWrong : ChangeSpec := { name := "lifeApart", fn := fun _ => fun
  | [d1, d2] => { results := [.lit (.bool false)], args := [d1, d2] }
  | _ => none }
def LifeApartWrongFalsely : Prop := lifeApartRow.holds Try.pinned (OpenSpec.ofChange lifeApartWrong)

/-- 'liglaw30.PairMatch': WHATEVER THE INPUT: true; the input reads as it did. -/
def pairMatchSpec : ChangeSpec := { name := "pairMatch", fn := fun _ => fun
  | [d1, d2] => { results := [.lit (.bool true)], args := [d1, d2] }
  | _ => none }
def pairMatchRow : OpenClaim := { program := "ytobopbjedojebaa", sum := "d8a4e7172b2b9739a78bd21a31a97aac2561219ffd5c78269b5413142d1dd7ac", func := "lighterman/liglaw30.PairMatch", spec := "pairMatch", inPlace := ["maps.clone"], unfollowed := true, recurses := true, plainKeys := false, apart := false }
def PairMatchSaid : Prop := pairMatchRow.holds Try.pinned (OpenSpec.ofChange pairMatchSpec)

/-- ITS FALSE NEIGHBOUR: 'it returns false'. Refute it at one input. -/
def pairMatchWrong : ChangeSpec := { name := "pairMatch", fn := fun _ => fun
  | [d1, d2] => { results := [.lit (.bool false)], args := [d1, d2] }
  | _ => none }
def PairMatchWrongFalsely : Prop := pairMatchRow.holds Try.pinned (OpenSpec.ofChange pairMatchWrong)

/- THE SECOND FORM. 'bulk': how many values and letters a reading holds, each counted each time it is reached (what is shared counts as often as it is met; a slice's spare places count too). A statement '..UptoSaid' is the law's where the arguments, and the package variables that the reading takes, are together of bulk at most 1048576: NARROWER than '..Said'. Prove '..Said' where nothing that the law and all that it calls make is longer than what came in: it says more and counts as full. Else prove '..UptoSaid'. A law counts once. -/
mutual
def uptoBulk {H : Type} : DataW H → Nat
  | .lit (.string bytes) => bytes.length + 1
  | .lit _ => 1
  | .nil => 1
  | .ptr d => uptoBulk d + 1
  | .slice elems spare => uptoBulkAll elems + uptoBulkAll spare + 1
  | .agg parts => uptoBulkAll parts + 1
  | .iface _ d => uptoBulk d + 1
  | .map entries => uptoBulkEntries entries + 1
  | .held _ => 1
def uptoBulkAll {H : Type} : List (DataW H) → Nat
  | [] => 0
  | d :: r => uptoBulk d + uptoBulkAll r
def uptoBulkEntries {H : Type} : List (Lit × DataW H) → Nat
  | [] => 0
  | x :: r => uptoBulkEntry x + uptoBulkEntries r
def uptoBulkEntry {H : Type} : Lit × DataW H → Nat
  | (.string bytes, d) => bytes.length + uptoBulk d + 1
  | (_, d) => uptoBulk d + 1
 end
def uptoSmall : (H : Type) → List (DataW H) → Bool := fun _ ds => decide (uptoBulkAll ds ≤ 1048576)
def OpenSpec.upto (s : _root_.Go.ChangeSpec) : _root_.Go.OpenSpec := { _root_.Go.OpenSpec.ofChange s with cond := some uptoSmall }

/-- 'liglaw22.LifeSides', WHERE WHAT IT READS IS OF BULK AT MOST 1048576: true; the input reads as it did. -/
def lifeSidesUptoRow : OpenClaim := { program := "ytobopbjedojebaa", sum := "d8a4e7172b2b9739a78bd21a31a97aac2561219ffd5c78269b5413142d1dd7ac", func := "lighterman/liglaw22.LifeSides", spec := "lifeSides", unfollowed := true, recurses := true, plainKeys := false, apart := false, narrowed := true }
def LifeSidesUptoSaid : Prop := lifeSidesUptoRow.holds Try.pinned (OpenSpec.upto lifeSidesSpec)

/-- 'liglaw22.LifeFolds', WHERE WHAT IT READS IS OF BULK AT MOST 1048576: true; the input reads as it did. -/
def lifeFoldsUptoRow : OpenClaim := { program := "ytobopbjedojebaa", sum := "d8a4e7172b2b9739a78bd21a31a97aac2561219ffd5c78269b5413142d1dd7ac", func := "lighterman/liglaw22.LifeFolds", spec := "lifeFolds", unfollowed := true, recurses := true, plainKeys := false, apart := false, narrowed := true }
def LifeFoldsUptoSaid : Prop := lifeFoldsUptoRow.holds Try.pinned (OpenSpec.upto lifeFoldsSpec)

/-- 'liglaw22.LifeTwice', WHERE WHAT IT READS IS OF BULK AT MOST 1048576: true; the input reads as it did. -/
def lifeTwiceUptoRow : OpenClaim := { program := "ytobopbjedojebaa", sum := "d8a4e7172b2b9739a78bd21a31a97aac2561219ffd5c78269b5413142d1dd7ac", func := "lighterman/liglaw22.LifeTwice", spec := "lifeTwice", unfollowed := true, recurses := true, plainKeys := false, apart := false, narrowed := true }
def LifeTwiceUptoSaid : Prop := lifeTwiceUptoRow.holds Try.pinned (OpenSpec.upto lifeTwiceSpec)

/-- 'liglaw22.LifeApart', WHERE WHAT IT READS IS OF BULK AT MOST 1048576: true; the input reads as it did. -/
def lifeApartUptoRow : OpenClaim := { program := "ytobopbjedojebaa", sum := "d8a4e7172b2b9739a78bd21a31a97aac2561219ffd5c78269b5413142d1dd7ac", func := "lighterman/liglaw22.LifeApart", spec := "lifeApart", unfollowed := true, recurses := true, plainKeys := false, apart := false, narrowed := true }
def LifeApartUptoSaid : Prop := lifeApartUptoRow.holds Try.pinned (OpenSpec.upto lifeApartSpec)

/-- 'liglaw30.PairMatch', WHERE WHAT IT READS IS OF BULK AT MOST 1048576: true; the input reads as it did. -/
def pairMatchUptoRow : OpenClaim := { program := "ytobopbjedojebaa", sum := "d8a4e7172b2b9739a78bd21a31a97aac2561219ffd5c78269b5413142d1dd7ac", func := "lighterman/liglaw30.PairMatch", spec := "pairMatch", inPlace := ["maps.clone"], unfollowed := true, recurses := true, plainKeys := false, apart := false, narrowed := true }
def PairMatchUptoSaid : Prop := pairMatchUptoRow.holds Try.pinned (OpenSpec.upto pairMatchSpec)

end Rows
end Go.Proofs.Ytobopbjedojebaa
