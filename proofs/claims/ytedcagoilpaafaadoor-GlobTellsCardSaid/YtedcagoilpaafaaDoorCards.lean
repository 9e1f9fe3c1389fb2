/-
  DERIVED. GIVEN WITH THE SEED: THE CARDS: each row of YtedcagoilpaafaaDoorRows.lean that lists a variable, with what it lists TIED to the program's text (the seventh form; the later family's looks); each row that meets fmt, with fmt's text TOLD by the authors' own Lean function (tested against real Go, not proved from fmt's source: count such statements apart). THE CARD IS WHAT COUNTS. Prove the row's statement (the work); the ties are given (YtedcagoilpaafaaDoorTie.lean); close each card by the builder's one call (the guide's Derived/Test/ToyasCard.lean, 'card_holds'). Laid BY PROGRAM, IN A SANDBOX (cutbox-door.mjs). By AI agents, Wed Nov 11 2026. No macro, syntax, notation, axiom, sorry.
-/
import Derived.Test.YtedcagoilpaafaaDoorRows
import GoSem.ClaimSeven
namespace Go.Proofs.YtedcagoilpaafaaDoor
namespace Rows

/-- THE TIED CARD OF 'liglaw20.GlobTells'. -/
def globTellsCard : Claim7 := { stood := { row := globTellsRow, standIns := [], harness := (true, "2e119b1224956cb76e6a8cd8493045a1be54c918c93cd296d0a384aadbadb177"), looks := false }, kinds := [], alts := [], laidByText := true, laidKinds := [.data, .pinned], laidTests := true, laidLooks := .later }
def GlobTellsCardSaid : Prop := Claim7.holds Tryd.pinned (.plain (OpenSpec.ofChange globTellsSpec)) globTellsCard

/-- THE TIED CARD OF 'liglaw20.GlobStars'. -/
def globStarsCard : Claim7 := { stood := { row := globStarsRow, standIns := [], harness := (true, "2e119b1224956cb76e6a8cd8493045a1be54c918c93cd296d0a384aadbadb177"), looks := false }, kinds := [], alts := [], laidByText := true, laidKinds := [.data, .pinned], laidTests := true, laidLooks := .later }
def GlobStarsCardSaid : Prop := Claim7.holds Tryd.pinned (.plain (OpenSpec.ofChange globStarsSpec)) globStarsCard

/-- THE TIED CARD OF 'liglaw20.GlobPlain'. -/
def globPlainCard : Claim7 := { stood := { row := globPlainRow, standIns := [], harness := (true, "2e119b1224956cb76e6a8cd8493045a1be54c918c93cd296d0a384aadbadb177"), looks := false }, kinds := [], alts := [], laidByText := true, laidKinds := [.data, .pinned], laidTests := true, laidLooks := .later }
def GlobPlainCardSaid : Prop := Claim7.holds Tryd.pinned (.plain (OpenSpec.ofChange globPlainSpec)) globPlainCard

/-- THE TIED CARD OF 'liglaw20.GlobParts'. -/
def globPartsCard : Claim7 := { stood := { row := globPartsRow, standIns := [], harness := (true, "2e119b1224956cb76e6a8cd8493045a1be54c918c93cd296d0a384aadbadb177"), looks := false }, kinds := [], alts := [], laidByText := true, laidKinds := [.data, .pinned], laidTests := true, laidLooks := .later }
def GlobPartsCardSaid : Prop := Claim7.holds Tryd.pinned (.plain (OpenSpec.ofChange globPartsSpec)) globPartsCard

/-- THE TIED CARD OF 'liglaw32.PlayShows'. -/
def playShowsCard : Claim7 := { stood := { row := playShowsRow, standIns := [], harness := (true, "2e119b1224956cb76e6a8cd8493045a1be54c918c93cd296d0a384aadbadb177"), looks := false }, kinds := [], alts := [], laidByText := true, laidKinds := [.data, .data, .data], laidTests := true, laidLooks := .later }
def PlayShowsCardSaid : Prop := Claim7.holds Tryd.pinned (.plain (OpenSpec.ofChange playShowsSpec)) playShowsCard

/-- THE SECOND FORM's CARD OF 'liglaw20.GlobTells'. -/
def globTellsUptoCard : Claim7 := { stood := { row := globTellsUptoRow, standIns := [], harness := (true, "2e119b1224956cb76e6a8cd8493045a1be54c918c93cd296d0a384aadbadb177"), looks := false }, kinds := [], alts := [], laidByText := true, laidKinds := [.data, .pinned], laidTests := true, laidLooks := .later }
def GlobTellsUptoCardSaid : Prop := Claim7.holds Tryd.pinned (.plain (OpenSpec.upto globTellsSpec)) globTellsUptoCard

/-- THE SECOND FORM's CARD OF 'liglaw20.GlobStars'. -/
def globStarsUptoCard : Claim7 := { stood := { row := globStarsUptoRow, standIns := [], harness := (true, "2e119b1224956cb76e6a8cd8493045a1be54c918c93cd296d0a384aadbadb177"), looks := false }, kinds := [], alts := [], laidByText := true, laidKinds := [.data, .pinned], laidTests := true, laidLooks := .later }
def GlobStarsUptoCardSaid : Prop := Claim7.holds Tryd.pinned (.plain (OpenSpec.upto globStarsSpec)) globStarsUptoCard

/-- THE SECOND FORM's CARD OF 'liglaw20.GlobPlain'. -/
def globPlainUptoCard : Claim7 := { stood := { row := globPlainUptoRow, standIns := [], harness := (true, "2e119b1224956cb76e6a8cd8493045a1be54c918c93cd296d0a384aadbadb177"), looks := false }, kinds := [], alts := [], laidByText := true, laidKinds := [.data, .pinned], laidTests := true, laidLooks := .later }
def GlobPlainUptoCardSaid : Prop := Claim7.holds Tryd.pinned (.plain (OpenSpec.upto globPlainSpec)) globPlainUptoCard

/-- THE SECOND FORM's CARD OF 'liglaw20.GlobParts'. -/
def globPartsUptoCard : Claim7 := { stood := { row := globPartsUptoRow, standIns := [], harness := (true, "2e119b1224956cb76e6a8cd8493045a1be54c918c93cd296d0a384aadbadb177"), looks := false }, kinds := [], alts := [], laidByText := true, laidKinds := [.data, .pinned], laidTests := true, laidLooks := .later }
def GlobPartsUptoCardSaid : Prop := Claim7.holds Tryd.pinned (.plain (OpenSpec.upto globPartsSpec)) globPartsUptoCard

/-- THE SECOND FORM's CARD OF 'liglaw32.PlayShows'. -/
def playShowsUptoCard : Claim7 := { stood := { row := playShowsUptoRow, standIns := [], harness := (true, "2e119b1224956cb76e6a8cd8493045a1be54c918c93cd296d0a384aadbadb177"), looks := false }, kinds := [], alts := [], laidByText := true, laidKinds := [.data, .data, .data], laidTests := true, laidLooks := .later }
def PlayShowsUptoCardSaid : Prop := Claim7.holds Tryd.pinned (.plain (OpenSpec.upto playShowsSpec)) playShowsUptoCard
end Rows
end Go.Proofs.YtedcagoilpaafaaDoor
