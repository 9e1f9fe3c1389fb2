/-
  DERIVED. GIVEN WITH THE SEED: THE CARDS: each row of YtbjmcmgekcmbpaaDoorRows.lean that lists a variable, with what it lists TIED to the program's text (the seventh form; the later family's looks); each row that meets fmt, with fmt's text TOLD by the authors' own Lean function (tested against real Go, not proved from fmt's source: count such statements apart). THE CARD IS WHAT COUNTS. Prove the row's statement (the work); the ties are given (YtbjmcmgekcmbpaaDoorTie.lean); close each card by the builder's one call (the guide's Derived/Test/ToyasCard.lean, 'card_holds'). Laid BY PROGRAM, IN A SANDBOX (cutbox-door.mjs). By AI agents, Wed Nov 11 2026. No macro, syntax, notation, axiom, sorry.
-/
import Derived.Test.YtbjmcmgekcmbpaaDoorRows
import GoSem.ClaimSeven
namespace Go.Proofs.YtbjmcmgekcmbpaaDoor
namespace Rows

/-- THE TIED CARD OF 'liglaw21.ConfParses'. -/
def confParsesCard : Claim7 := { stood := { row := confParsesRow, standIns := [], harness := (true, "25cb2eb95458517192548c28512c6c3e8ca58e8797f9267629a75471c5225f97"), looks := false }, kinds := [], alts := [], laidByText := true, laidKinds := [.data, .pinned], laidTests := true, laidLooks := .later }
def ConfParsesCardSaid : Prop := Claim7.holds Tryd.pinned (.plain (OpenSpec.ofChange confParsesSpec)) confParsesCard

/-- THE TIED CARD OF 'liglaw21.ConfRules'. -/
def confRulesCard : Claim7 := { stood := { row := confRulesRow, standIns := [], harness := (true, "25cb2eb95458517192548c28512c6c3e8ca58e8797f9267629a75471c5225f97"), looks := false }, kinds := [], alts := [], laidByText := true, laidKinds := [.data, .data, .data, .data, .pinned], laidTests := true, laidLooks := .later }
def ConfRulesCardSaid : Prop := Claim7.holds Tryd.pinned (.plain (OpenSpec.ofChange confRulesSpec)) confRulesCard

/-- THE TIED CARD OF 'liglaw21.ConfLets'. -/
def confLetsCard : Claim7 := { stood := { row := confLetsRow, standIns := [], harness := (true, "25cb2eb95458517192548c28512c6c3e8ca58e8797f9267629a75471c5225f97"), looks := false }, kinds := [], alts := [], laidByText := true, laidKinds := [.data, .data, .data, .data, .pinned], laidTests := true, laidLooks := .later }
def ConfLetsCardSaid : Prop := Claim7.holds Tryd.pinned (.plain (OpenSpec.ofChange confLetsSpec)) confLetsCard

/-- THE SECOND FORM's CARD OF 'liglaw21.ConfParses'. -/
def confParsesUptoCard : Claim7 := { stood := { row := confParsesUptoRow, standIns := [], harness := (true, "25cb2eb95458517192548c28512c6c3e8ca58e8797f9267629a75471c5225f97"), looks := false }, kinds := [], alts := [], laidByText := true, laidKinds := [.data, .pinned], laidTests := true, laidLooks := .later }
def ConfParsesUptoCardSaid : Prop := Claim7.holds Tryd.pinned (.plain (OpenSpec.upto confParsesSpec)) confParsesUptoCard

/-- THE SECOND FORM's CARD OF 'liglaw21.ConfRules'. -/
def confRulesUptoCard : Claim7 := { stood := { row := confRulesUptoRow, standIns := [], harness := (true, "25cb2eb95458517192548c28512c6c3e8ca58e8797f9267629a75471c5225f97"), looks := false }, kinds := [], alts := [], laidByText := true, laidKinds := [.data, .data, .data, .data, .pinned], laidTests := true, laidLooks := .later }
def ConfRulesUptoCardSaid : Prop := Claim7.holds Tryd.pinned (.plain (OpenSpec.upto confRulesSpec)) confRulesUptoCard

/-- THE SECOND FORM's CARD OF 'liglaw21.ConfLets'. -/
def confLetsUptoCard : Claim7 := { stood := { row := confLetsUptoRow, standIns := [], harness := (true, "25cb2eb95458517192548c28512c6c3e8ca58e8797f9267629a75471c5225f97"), looks := false }, kinds := [], alts := [], laidByText := true, laidKinds := [.data, .data, .data, .data, .pinned], laidTests := true, laidLooks := .later }
def ConfLetsUptoCardSaid : Prop := Claim7.holds Tryd.pinned (.plain (OpenSpec.upto confLetsSpec)) confLetsUptoCard
end Rows
end Go.Proofs.YtbjmcmgekcmbpaaDoor
