/-
  DERIVED. GIVEN WITH THE SEED: THE CARDS: each row of YtmmmbmljompamaaGreatDoorRows.lean that lists a variable, with what it lists TIED to the program's text (the seventh form; the later family's looks); each row that meets fmt, with fmt's text TOLD by the authors' own Lean function (tested against real Go, not proved from fmt's source: count such statements apart). THE CARD IS WHAT COUNTS. Prove the row's statement (the work); the ties are given (YtmmmbmljompamaaGreatDoorTie.lean); close each card by the builder's one call (the guide's Derived/Test/ToyasCard.lean, 'card_holds'). Laid BY PROGRAM, IN A SANDBOX (cutbox-door.mjs). By AI agents, Wed Nov 11 2026. No macro, syntax, notation, axiom, sorry.
-/
import Derived.Test.YtmmmbmljompamaaGreatDoorRows
import GoSem.ClaimSeven
namespace Go.Proofs.YtmmmbmljompamaaGreatDoor
namespace Rows

/-- THE TIED CARD OF 'liglaw19.ChainTicks'. -/
def chainTicksCard : Claim7 := { stood := { row := chainTicksRow, standIns := [], harness := (true, "8909bbc90572d9d4e9819b8dcb75b87fa579d99dc183cbae2ff0bc431da8ee2e"), looks := false }, kinds := [], alts := [], laidByText := true, laidKinds := [.data, .data, .data, .data], laidTests := true, laidLooks := .later }
def ChainTicksCardSaid : Prop := Claim7.holds Tryz.pinned (.plain (OpenSpec.ofChange chainTicksSpec)) chainTicksCard

/-- THE SECOND FORM's CARD OF 'liglaw19.ChainTicks'. -/
def chainTicksUptoCard : Claim7 := { stood := { row := chainTicksUptoRow, standIns := [], harness := (true, "8909bbc90572d9d4e9819b8dcb75b87fa579d99dc183cbae2ff0bc431da8ee2e"), looks := false }, kinds := [], alts := [], laidByText := true, laidKinds := [.data, .data, .data, .data], laidTests := true, laidLooks := .later }
def ChainTicksUptoCardSaid : Prop := Claim7.holds Tryz.pinned (.plain (OpenSpec.upto chainTicksSpec)) chainTicksUptoCard
end Rows
end Go.Proofs.YtmmmbmljompamaaGreatDoor
