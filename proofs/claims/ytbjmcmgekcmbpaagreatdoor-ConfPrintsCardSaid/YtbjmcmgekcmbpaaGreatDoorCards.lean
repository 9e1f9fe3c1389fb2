/-
  DERIVED. GIVEN WITH THE SEED: THE CARDS: each row of YtbjmcmgekcmbpaaGreatDoorRows.lean that lists a variable, with what it lists TIED to the program's text (the seventh form; the later family's looks); each row that meets fmt, with fmt's text TOLD by the authors' own Lean function (tested against real Go, not proved from fmt's source: count such statements apart). THE CARD IS WHAT COUNTS. Prove the row's statement (the work); the ties are given (YtbjmcmgekcmbpaaGreatDoorTie.lean); close each card by the builder's one call (the guide's Derived/Test/ToyasCard.lean, 'card_holds'). Laid BY PROGRAM, IN A SANDBOX (cutbox-door.mjs). By AI agents, Wed Nov 11 2026. No macro, syntax, notation, axiom, sorry.
-/
import Derived.Test.YtbjmcmgekcmbpaaGreatDoorRows
import GoSem.ClaimSeven
namespace Go.Proofs.YtbjmcmgekcmbpaaGreatDoor
namespace Rows

/-- THE TIED CARD OF 'liglaw21.ConfPrints'. -/
def confPrintsCard : Claim7 := { stood := { row := confPrintsRow, standIns := [], harness := (true, "2cf39f795c6cd5d132a6380c59640f5ede270b6d8ef623d2394df2648c490e51"), looks := false }, kinds := [], alts := [], laidByText := true, laidKinds := [.data, .data, .data, .data, .pinned], laidTests := true, laidLooks := .later }
def ConfPrintsCardSaid : Prop := Claim7.holds Tryz.pinned (.plain (OpenSpec.ofChange confPrintsSpec)) confPrintsCard

/-- THE SECOND FORM's CARD OF 'liglaw21.ConfPrints'. -/
def confPrintsUptoCard : Claim7 := { stood := { row := confPrintsUptoRow, standIns := [], harness := (true, "2cf39f795c6cd5d132a6380c59640f5ede270b6d8ef623d2394df2648c490e51"), looks := false }, kinds := [], alts := [], laidByText := true, laidKinds := [.data, .data, .data, .data, .pinned], laidTests := true, laidLooks := .later }
def ConfPrintsUptoCardSaid : Prop := Claim7.holds Tryz.pinned (.plain (OpenSpec.upto confPrintsSpec)) confPrintsUptoCard
end Rows
end Go.Proofs.YtbjmcmgekcmbpaaGreatDoor
