/-
  DERIVED. GIVEN WITH THE SEED: THE CARDS: each row of YthdcogkdacnheaaGreatDoorRows.lean that lists a variable, with what it lists TIED to the program's text (the seventh form; the later family's looks); each row that meets fmt, with fmt's text TOLD by the authors' own Lean function (tested against real Go, not proved from fmt's source: count such statements apart). THE CARD IS WHAT COUNTS. Prove the row's statement (the work); the ties are given (YthdcogkdacnheaaGreatDoorTie.lean); close each card by the builder's one call (the guide's Derived/Test/ToyasCard.lean, 'card_holds'). Laid BY PROGRAM, IN A SANDBOX (cutbox-door.mjs). By AI agents, Wed Nov 11 2026. No macro, syntax, notation, axiom, sorry.
-/
import Derived.Test.YthdcogkdacnheaaGreatDoorRows
import GoSem.ClaimSeven
namespace Go.Proofs.YthdcogkdacnheaaGreatDoor
namespace Rows

/-- THE TIED CARD OF 'liglaw15.EndsPlays'. -/
def endsPlaysCard : Claim7 := { stood := { row := endsPlaysRow, standIns := [], harness := (true, "633d898b4c70bb082fcb870606e277ae96afd4716533644ab4cf4c7514e34967"), looks := false }, kinds := [], alts := [], laidByText := true, laidKinds := [.data, .data, .data, .data, .pinned], laidTests := true, laidLooks := .later }
def EndsPlaysCardSaid : Prop := Claim7.holds Tryz.pinned (.plain (OpenSpec.ofChange endsPlaysSpec)) endsPlaysCard

/-- THE TIED CARD OF 'liglaw15.EndsInit'. -/
def endsInitCard : Claim7 := { stood := { row := endsInitRow, standIns := [], harness := (true, "633d898b4c70bb082fcb870606e277ae96afd4716533644ab4cf4c7514e34967"), looks := false }, kinds := [], alts := [], laidByText := true, laidKinds := [.data, .data, .data, .data, .pinned], laidTests := true, laidLooks := .later }
def EndsInitCardSaid : Prop := Claim7.holds Tryz.pinned (.plain (OpenSpec.ofChange endsInitSpec)) endsInitCard

/-- THE SECOND FORM's CARD OF 'liglaw15.EndsPlays'. -/
def endsPlaysUptoCard : Claim7 := { stood := { row := endsPlaysUptoRow, standIns := [], harness := (true, "633d898b4c70bb082fcb870606e277ae96afd4716533644ab4cf4c7514e34967"), looks := false }, kinds := [], alts := [], laidByText := true, laidKinds := [.data, .data, .data, .data, .pinned], laidTests := true, laidLooks := .later }
def EndsPlaysUptoCardSaid : Prop := Claim7.holds Tryz.pinned (.plain (OpenSpec.upto endsPlaysSpec)) endsPlaysUptoCard

/-- THE SECOND FORM's CARD OF 'liglaw15.EndsInit'. -/
def endsInitUptoCard : Claim7 := { stood := { row := endsInitUptoRow, standIns := [], harness := (true, "633d898b4c70bb082fcb870606e277ae96afd4716533644ab4cf4c7514e34967"), looks := false }, kinds := [], alts := [], laidByText := true, laidKinds := [.data, .data, .data, .data, .pinned], laidTests := true, laidLooks := .later }
def EndsInitUptoCardSaid : Prop := Claim7.holds Tryz.pinned (.plain (OpenSpec.upto endsInitSpec)) endsInitUptoCard
end Rows
end Go.Proofs.YthdcogkdacnheaaGreatDoor
