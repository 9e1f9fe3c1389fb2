/-
  DERIVED. GIVEN WITH THE SEED: THE CARDS: each row of YtfkkjhnbbimcaaaDoorRows.lean that lists a variable, with what it lists TIED to the program's text (the seventh form; the later family's looks); each row that meets fmt, with fmt's text TOLD by the authors' own Lean function (tested against real Go, not proved from fmt's source: count such statements apart). THE CARD IS WHAT COUNTS. Prove the row's statement (the work); the ties are given (YtfkkjhnbbimcaaaDoorTie.lean); close each card by the builder's one call (the guide's Derived/Test/ToyasCard.lean, 'card_holds'). Laid BY PROGRAM, IN A SANDBOX (cutbox-door.mjs). By AI agents, Wed Nov 11 2026. No macro, syntax, notation, axiom, sorry.
-/
import Derived.Test.YtfkkjhnbbimcaaaDoorRows
import GoSem.ClaimSeven
namespace Go.Proofs.YtfkkjhnbbimcaaaDoor
namespace Rows

/-- THE TIED CARD OF 'liglaw21.ConfParses'. -/
def confParsesCard : Claim7 := { stood := { row := confParsesRow, standIns := [], harness := (true, "aae986d2f9286621b2b84064bd46a485d09695565c33a6615a87f948d4cd1afc"), looks := false }, kinds := [], alts := [], laidByText := true, laidKinds := [.data, .pinned], laidTests := true, laidLooks := .later }
def ConfParsesCardSaid : Prop := Claim7.holds Tryd.pinned (.plain (OpenSpec.ofChange confParsesSpec)) confParsesCard

/-- THE TIED CARD OF 'liglaw32.PlayTells'. -/
def playTellsCard : Claim7 := { stood := { row := playTellsRow, standIns := [], harness := (true, "aae986d2f9286621b2b84064bd46a485d09695565c33a6615a87f948d4cd1afc"), looks := false }, kinds := [], alts := [], laidByText := true, laidKinds := [.data, .data, .data, .data, .pinned], laidTests := true, laidLooks := .later }
def PlayTellsCardSaid : Prop := Claim7.holds Tryd.pinned (.plain (OpenSpec.ofChange playTellsSpec)) playTellsCard

/-- THE TIED CARD OF 'liglaw32.PlayBack'. -/
def playBackCard : Claim7 := { stood := { row := playBackRow, standIns := [], harness := (true, "aae986d2f9286621b2b84064bd46a485d09695565c33a6615a87f948d4cd1afc"), looks := false }, kinds := [], alts := [], laidByText := true, laidKinds := [.data, .data, .data, .data, .pinned], laidTests := true, laidLooks := .later }
def PlayBackCardSaid : Prop := Claim7.holds Tryd.pinned (.plain (OpenSpec.ofChange playBackSpec)) playBackCard

/-- THE TIED CARD OF 'liglaw32.PlayLines'. -/
def playLinesCard : Claim7 := { stood := { row := playLinesRow, standIns := [], harness := (true, "aae986d2f9286621b2b84064bd46a485d09695565c33a6615a87f948d4cd1afc"), looks := false }, kinds := [], alts := [], laidByText := true, laidKinds := [.data, .data, .data, .data, .pinned], laidTests := true, laidLooks := .later }
def PlayLinesCardSaid : Prop := Claim7.holds Tryd.pinned (.plain (OpenSpec.ofChange playLinesSpec)) playLinesCard

/-- THE SECOND FORM's CARD OF 'liglaw21.ConfParses'. -/
def confParsesUptoCard : Claim7 := { stood := { row := confParsesUptoRow, standIns := [], harness := (true, "aae986d2f9286621b2b84064bd46a485d09695565c33a6615a87f948d4cd1afc"), looks := false }, kinds := [], alts := [], laidByText := true, laidKinds := [.data, .pinned], laidTests := true, laidLooks := .later }
def ConfParsesUptoCardSaid : Prop := Claim7.holds Tryd.pinned (.plain (OpenSpec.upto confParsesSpec)) confParsesUptoCard

/-- THE SECOND FORM's CARD OF 'liglaw32.PlayTells'. -/
def playTellsUptoCard : Claim7 := { stood := { row := playTellsUptoRow, standIns := [], harness := (true, "aae986d2f9286621b2b84064bd46a485d09695565c33a6615a87f948d4cd1afc"), looks := false }, kinds := [], alts := [], laidByText := true, laidKinds := [.data, .data, .data, .data, .pinned], laidTests := true, laidLooks := .later }
def PlayTellsUptoCardSaid : Prop := Claim7.holds Tryd.pinned (.plain (OpenSpec.upto playTellsSpec)) playTellsUptoCard

/-- THE SECOND FORM's CARD OF 'liglaw32.PlayBack'. -/
def playBackUptoCard : Claim7 := { stood := { row := playBackUptoRow, standIns := [], harness := (true, "aae986d2f9286621b2b84064bd46a485d09695565c33a6615a87f948d4cd1afc"), looks := false }, kinds := [], alts := [], laidByText := true, laidKinds := [.data, .data, .data, .data, .pinned], laidTests := true, laidLooks := .later }
def PlayBackUptoCardSaid : Prop := Claim7.holds Tryd.pinned (.plain (OpenSpec.upto playBackSpec)) playBackUptoCard

/-- THE SECOND FORM's CARD OF 'liglaw32.PlayLines'. -/
def playLinesUptoCard : Claim7 := { stood := { row := playLinesUptoRow, standIns := [], harness := (true, "aae986d2f9286621b2b84064bd46a485d09695565c33a6615a87f948d4cd1afc"), looks := false }, kinds := [], alts := [], laidByText := true, laidKinds := [.data, .data, .data, .data, .pinned], laidTests := true, laidLooks := .later }
def PlayLinesUptoCardSaid : Prop := Claim7.holds Tryd.pinned (.plain (OpenSpec.upto playLinesSpec)) playLinesUptoCard
end Rows
end Go.Proofs.YtfkkjhnbbimcaaaDoor
