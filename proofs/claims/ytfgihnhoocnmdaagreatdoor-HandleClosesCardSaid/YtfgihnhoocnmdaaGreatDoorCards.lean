/-
  DERIVED. GIVEN WITH THE SEED: THE CARDS: each row of YtfgihnhoocnmdaaGreatDoorRows.lean that lists a variable, with what it lists TIED to the program's text (the seventh form; the later family's looks); each row that meets fmt, with fmt's text TOLD by the authors' own Lean function (tested against real Go, not proved from fmt's source: count such statements apart). THE CARD IS WHAT COUNTS. Prove the row's statement (the work); the ties are given (YtfgihnhoocnmdaaGreatDoorTie.lean); close each card by the builder's one call (the guide's Derived/Test/ToyasCard.lean, 'card_holds'). Laid BY PROGRAM, IN A SANDBOX (cutbox-door.mjs). By AI agents, Wed Nov 11 2026. No macro, syntax, notation, axiom, sorry.
-/
import Derived.Test.YtfgihnhoocnmdaaGreatDoorRows
import GoSem.ClaimSeven
namespace Go.Proofs.YtfgihnhoocnmdaaGreatDoor
namespace Rows

/-- THE TIED CARD OF 'liglaw18.HandleOnce'. -/
def handleOnceCard : Claim7 := { stood := { row := handleOnceRow, standIns := [], harness := (true, "20758662e404b704edd95a6ed9e8f38a95ab9e84be1e2309889fcc85fe9fea5e"), looks := false }, kinds := [], alts := [], laidByText := true, laidKinds := [.data, .data, .data, .data], laidTests := true, laidLooks := .later }
def HandleOnceCardSaid : Prop := Claim7.holds Tryz.pinned (.plain (OpenSpec.ofChange handleOnceSpec)) handleOnceCard

/-- THE TIED CARD OF 'liglaw18.HandleCloses'. -/
def handleClosesCard : Claim7 := { stood := { row := handleClosesRow, standIns := [], harness := (true, "20758662e404b704edd95a6ed9e8f38a95ab9e84be1e2309889fcc85fe9fea5e"), looks := false }, kinds := [], alts := [], laidByText := true, laidKinds := [.data, .data, .data, .data], laidTests := true, laidLooks := .later }
def HandleClosesCardSaid : Prop := Claim7.holds Tryz.pinned (.plain (OpenSpec.ofChange handleClosesSpec)) handleClosesCard

/-- THE TIED CARD OF 'liglaw18.HandleSends'. -/
def handleSendsCard : Claim7 := { stood := { row := handleSendsRow, standIns := [], harness := (true, "20758662e404b704edd95a6ed9e8f38a95ab9e84be1e2309889fcc85fe9fea5e"), looks := false }, kinds := [], alts := [], laidByText := true, laidKinds := [.data, .data, .data, .data], laidTests := true, laidLooks := .later }
def HandleSendsCardSaid : Prop := Claim7.holds Tryz.pinned (.plain (OpenSpec.ofChange handleSendsSpec)) handleSendsCard

/-- THE TIED CARD OF 'liglaw18.HandleDoes'. -/
def handleDoesCard : Claim7 := { stood := { row := handleDoesRow, standIns := [], harness := (true, "20758662e404b704edd95a6ed9e8f38a95ab9e84be1e2309889fcc85fe9fea5e"), looks := false }, kinds := [], alts := [], laidByText := true, laidKinds := [.data, .data, .data, .data], laidTests := true, laidLooks := .later }
def HandleDoesCardSaid : Prop := Claim7.holds Tryz.pinned (.plain (OpenSpec.ofChange handleDoesSpec)) handleDoesCard

/-- THE TIED CARD OF 'liglaw18.HandleRefuses'. -/
def handleRefusesCard : Claim7 := { stood := { row := handleRefusesRow, standIns := [], harness := (true, "20758662e404b704edd95a6ed9e8f38a95ab9e84be1e2309889fcc85fe9fea5e"), looks := false }, kinds := [], alts := [], laidByText := true, laidKinds := [.data, .data, .data, .data], laidTests := true, laidLooks := .later }
def HandleRefusesCardSaid : Prop := Claim7.holds Tryz.pinned (.plain (OpenSpec.ofChange handleRefusesSpec)) handleRefusesCard

/-- THE SECOND FORM's CARD OF 'liglaw18.HandleOnce'. -/
def handleOnceUptoCard : Claim7 := { stood := { row := handleOnceUptoRow, standIns := [], harness := (true, "20758662e404b704edd95a6ed9e8f38a95ab9e84be1e2309889fcc85fe9fea5e"), looks := false }, kinds := [], alts := [], laidByText := true, laidKinds := [.data, .data, .data, .data], laidTests := true, laidLooks := .later }
def HandleOnceUptoCardSaid : Prop := Claim7.holds Tryz.pinned (.plain (OpenSpec.upto handleOnceSpec)) handleOnceUptoCard

/-- THE SECOND FORM's CARD OF 'liglaw18.HandleCloses'. -/
def handleClosesUptoCard : Claim7 := { stood := { row := handleClosesUptoRow, standIns := [], harness := (true, "20758662e404b704edd95a6ed9e8f38a95ab9e84be1e2309889fcc85fe9fea5e"), looks := false }, kinds := [], alts := [], laidByText := true, laidKinds := [.data, .data, .data, .data], laidTests := true, laidLooks := .later }
def HandleClosesUptoCardSaid : Prop := Claim7.holds Tryz.pinned (.plain (OpenSpec.upto handleClosesSpec)) handleClosesUptoCard

/-- THE SECOND FORM's CARD OF 'liglaw18.HandleSends'. -/
def handleSendsUptoCard : Claim7 := { stood := { row := handleSendsUptoRow, standIns := [], harness := (true, "20758662e404b704edd95a6ed9e8f38a95ab9e84be1e2309889fcc85fe9fea5e"), looks := false }, kinds := [], alts := [], laidByText := true, laidKinds := [.data, .data, .data, .data], laidTests := true, laidLooks := .later }
def HandleSendsUptoCardSaid : Prop := Claim7.holds Tryz.pinned (.plain (OpenSpec.upto handleSendsSpec)) handleSendsUptoCard

/-- THE SECOND FORM's CARD OF 'liglaw18.HandleDoes'. -/
def handleDoesUptoCard : Claim7 := { stood := { row := handleDoesUptoRow, standIns := [], harness := (true, "20758662e404b704edd95a6ed9e8f38a95ab9e84be1e2309889fcc85fe9fea5e"), looks := false }, kinds := [], alts := [], laidByText := true, laidKinds := [.data, .data, .data, .data], laidTests := true, laidLooks := .later }
def HandleDoesUptoCardSaid : Prop := Claim7.holds Tryz.pinned (.plain (OpenSpec.upto handleDoesSpec)) handleDoesUptoCard

/-- THE SECOND FORM's CARD OF 'liglaw18.HandleRefuses'. -/
def handleRefusesUptoCard : Claim7 := { stood := { row := handleRefusesUptoRow, standIns := [], harness := (true, "20758662e404b704edd95a6ed9e8f38a95ab9e84be1e2309889fcc85fe9fea5e"), looks := false }, kinds := [], alts := [], laidByText := true, laidKinds := [.data, .data, .data, .data], laidTests := true, laidLooks := .later }
def HandleRefusesUptoCardSaid : Prop := Claim7.holds Tryz.pinned (.plain (OpenSpec.upto handleRefusesSpec)) handleRefusesUptoCard
end Rows
end Go.Proofs.YtfgihnhoocnmdaaGreatDoor
