/-
  DERIVED. GIVEN WITH THE SEED: THE CARDS: each row of YtgdhinnepnlihaaGreatDoorRows.lean that lists a variable, with what it lists TIED to the program's text (the seventh form; the later family's looks); each row that meets fmt, with fmt's text TOLD by the authors' own Lean function (tested against real Go, not proved from fmt's source: count such statements apart). THE CARD IS WHAT COUNTS. Prove the row's statement (the work); the ties are given (YtgdhinnepnlihaaGreatDoorTie.lean); close each card by the builder's one call (the guide's Derived/Test/ToyasCard.lean, 'card_holds'). Laid BY PROGRAM, IN A SANDBOX (cutbox-door.mjs). By AI agents, Wed Nov 11 2026. No macro, syntax, notation, axiom, sorry.
-/
import Derived.Test.YtgdhinnepnlihaaGreatDoorRows
import GoSem.ClaimSeven
namespace Go.Proofs.YtgdhinnepnlihaaGreatDoor
namespace Rows

/-- THE TIED CARD OF 'liglaw24.IndexLacks'. -/
def indexLacksCard : Claim7 := { stood := { row := indexLacksRow, standIns := [], harness := (true, "51a47207eeb991ecab425a2cad0eaae47ffe8fc189ad2351dfb36a42038bdbd8"), looks := false }, kinds := [], alts := [], laidByText := true, laidKinds := [.data], laidTests := true, laidLooks := .later }
def IndexLacksCardSaid : Prop := Claim7.holds Tryz.pinned (.plain (OpenSpec.ofChange indexLacksSpec)) indexLacksCard

/-- THE TIED CARD OF 'liglaw24.IndexTwice'. -/
def indexTwiceCard : Claim7 := { stood := { row := indexTwiceRow, standIns := [], harness := (true, "51a47207eeb991ecab425a2cad0eaae47ffe8fc189ad2351dfb36a42038bdbd8"), looks := false }, kinds := [], alts := [], laidByText := true, laidKinds := [.data], laidTests := true, laidLooks := .later }
def IndexTwiceCardSaid : Prop := Claim7.holds Tryz.pinned (.plain (OpenSpec.ofChange indexTwiceSpec)) indexTwiceCard

/-- THE TIED CARD OF 'liglaw24.IndexOrder'. -/
def indexOrderCard : Claim7 := { stood := { row := indexOrderRow, standIns := [], harness := (true, "51a47207eeb991ecab425a2cad0eaae47ffe8fc189ad2351dfb36a42038bdbd8"), looks := false }, kinds := [], alts := [], laidByText := true, laidKinds := [.data], laidTests := true, laidLooks := .later }
def IndexOrderCardSaid : Prop := Claim7.holds Tryz.pinned (.plain (OpenSpec.ofChange indexOrderSpec)) indexOrderCard

/-- THE TIED CARD OF 'liglaw24.IndexPlays'. -/
def indexPlaysCard : Claim7 := { stood := { row := indexPlaysRow, standIns := [], harness := (true, "51a47207eeb991ecab425a2cad0eaae47ffe8fc189ad2351dfb36a42038bdbd8"), looks := false }, kinds := [], alts := [], laidByText := true, laidKinds := [.data], laidTests := true, laidLooks := .later }
def IndexPlaysCardSaid : Prop := Claim7.holds Tryz.pinned (.plain (OpenSpec.ofChange indexPlaysSpec)) indexPlaysCard

/-- THE TIED CARD OF 'liglaw15.EndsPlays'. -/
def endsPlaysCard : Claim7 := { stood := { row := endsPlaysRow, standIns := [], harness := (true, "51a47207eeb991ecab425a2cad0eaae47ffe8fc189ad2351dfb36a42038bdbd8"), looks := false }, kinds := [], alts := [], laidByText := true, laidKinds := [.data, .data, .data, .data, .pinned], laidTests := true, laidLooks := .later }
def EndsPlaysCardSaid : Prop := Claim7.holds Tryz.pinned (.plain (OpenSpec.ofChange endsPlaysSpec)) endsPlaysCard

/-- THE TIED CARD OF 'liglaw15.EndsInit'. -/
def endsInitCard : Claim7 := { stood := { row := endsInitRow, standIns := [], harness := (true, "51a47207eeb991ecab425a2cad0eaae47ffe8fc189ad2351dfb36a42038bdbd8"), looks := false }, kinds := [], alts := [], laidByText := true, laidKinds := [.data, .data, .data, .data, .pinned], laidTests := true, laidLooks := .later }
def EndsInitCardSaid : Prop := Claim7.holds Tryz.pinned (.plain (OpenSpec.ofChange endsInitSpec)) endsInitCard

/-- THE SECOND FORM's CARD OF 'liglaw24.IndexLacks'. -/
def indexLacksUptoCard : Claim7 := { stood := { row := indexLacksUptoRow, standIns := [], harness := (true, "51a47207eeb991ecab425a2cad0eaae47ffe8fc189ad2351dfb36a42038bdbd8"), looks := false }, kinds := [], alts := [], laidByText := true, laidKinds := [.data], laidTests := true, laidLooks := .later }
def IndexLacksUptoCardSaid : Prop := Claim7.holds Tryz.pinned (.plain (OpenSpec.upto indexLacksSpec)) indexLacksUptoCard

/-- THE SECOND FORM's CARD OF 'liglaw24.IndexTwice'. -/
def indexTwiceUptoCard : Claim7 := { stood := { row := indexTwiceUptoRow, standIns := [], harness := (true, "51a47207eeb991ecab425a2cad0eaae47ffe8fc189ad2351dfb36a42038bdbd8"), looks := false }, kinds := [], alts := [], laidByText := true, laidKinds := [.data], laidTests := true, laidLooks := .later }
def IndexTwiceUptoCardSaid : Prop := Claim7.holds Tryz.pinned (.plain (OpenSpec.upto indexTwiceSpec)) indexTwiceUptoCard

/-- THE SECOND FORM's CARD OF 'liglaw24.IndexOrder'. -/
def indexOrderUptoCard : Claim7 := { stood := { row := indexOrderUptoRow, standIns := [], harness := (true, "51a47207eeb991ecab425a2cad0eaae47ffe8fc189ad2351dfb36a42038bdbd8"), looks := false }, kinds := [], alts := [], laidByText := true, laidKinds := [.data], laidTests := true, laidLooks := .later }
def IndexOrderUptoCardSaid : Prop := Claim7.holds Tryz.pinned (.plain (OpenSpec.upto indexOrderSpec)) indexOrderUptoCard

/-- THE SECOND FORM's CARD OF 'liglaw24.IndexPlays'. -/
def indexPlaysUptoCard : Claim7 := { stood := { row := indexPlaysUptoRow, standIns := [], harness := (true, "51a47207eeb991ecab425a2cad0eaae47ffe8fc189ad2351dfb36a42038bdbd8"), looks := false }, kinds := [], alts := [], laidByText := true, laidKinds := [.data], laidTests := true, laidLooks := .later }
def IndexPlaysUptoCardSaid : Prop := Claim7.holds Tryz.pinned (.plain (OpenSpec.upto indexPlaysSpec)) indexPlaysUptoCard

/-- THE SECOND FORM's CARD OF 'liglaw15.EndsPlays'. -/
def endsPlaysUptoCard : Claim7 := { stood := { row := endsPlaysUptoRow, standIns := [], harness := (true, "51a47207eeb991ecab425a2cad0eaae47ffe8fc189ad2351dfb36a42038bdbd8"), looks := false }, kinds := [], alts := [], laidByText := true, laidKinds := [.data, .data, .data, .data, .pinned], laidTests := true, laidLooks := .later }
def EndsPlaysUptoCardSaid : Prop := Claim7.holds Tryz.pinned (.plain (OpenSpec.upto endsPlaysSpec)) endsPlaysUptoCard

/-- THE SECOND FORM's CARD OF 'liglaw15.EndsInit'. -/
def endsInitUptoCard : Claim7 := { stood := { row := endsInitUptoRow, standIns := [], harness := (true, "51a47207eeb991ecab425a2cad0eaae47ffe8fc189ad2351dfb36a42038bdbd8"), looks := false }, kinds := [], alts := [], laidByText := true, laidKinds := [.data, .data, .data, .data, .pinned], laidTests := true, laidLooks := .later }
def EndsInitUptoCardSaid : Prop := Claim7.holds Tryz.pinned (.plain (OpenSpec.upto endsInitSpec)) endsInitUptoCard
end Rows
end Go.Proofs.YtgdhinnepnlihaaGreatDoor
