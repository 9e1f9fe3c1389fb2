/-
  DERIVED. GIVEN WITH THE SEED: THE CARDS: each row of YtcgmheacdgcgiaaDoorRows.lean that lists a variable, with what it lists TIED to the program's text (the seventh form; the later family's looks); each row that meets fmt, with fmt's text TOLD by the authors' own Lean function (tested against real Go, not proved from fmt's source: count such statements apart). THE CARD IS WHAT COUNTS. Prove the row's statement (the work); the ties are given (YtcgmheacdgcgiaaDoorTie.lean); close each card by the builder's one call (the guide's Derived/Test/ToyasCard.lean, 'card_holds'). Laid BY PROGRAM, IN A SANDBOX (cutbox-door.mjs). By AI agents, Wed Nov 11 2026. No macro, syntax, notation, axiom, sorry.
-/
import Derived.Test.YtcgmheacdgcgiaaDoorRows
import GoSem.ClaimSeven
namespace Go.Proofs.YtcgmheacdgcgiaaDoor
namespace Rows

/-- THE TIED CARD OF 'liglaw3.PathNumber'. -/
def pathNumberCard : Claim7 := { stood := { row := pathNumberRow, standIns := [], harness := (true, "4e7a4b0efe345482f930fa2c0cab42f239ae6b8635208cfbc6b36ad5f4b87454"), looks := false }, kinds := [], alts := [], laidByText := true, laidKinds := [.data, .data, .data, .data, .pinned], laidTests := true, laidLooks := .later }
def PathNumberCardSaid : Prop := Claim7.holds Tryd.pinned (.plain (OpenSpec.ofChange pathNumberSpec)) pathNumberCard

/-- THE TIED CARD OF 'liglaw3.PathApart'. -/
def pathApartCard : Claim7 := { stood := { row := pathApartRow, standIns := [], harness := (true, "4e7a4b0efe345482f930fa2c0cab42f239ae6b8635208cfbc6b36ad5f4b87454"), looks := false }, kinds := [], alts := [], laidByText := true, laidKinds := [.data, .data, .data, .data, .pinned], laidTests := true, laidLooks := .later }
def PathApartCardSaid : Prop := Claim7.holds Tryd.pinned (.plain (OpenSpec.ofChange pathApartSpec)) pathApartCard

/-- THE TIED CARD OF 'liglaw3.PathNames'. -/
def pathNamesCard : Claim7 := { stood := { row := pathNamesRow, standIns := [], harness := (true, "4e7a4b0efe345482f930fa2c0cab42f239ae6b8635208cfbc6b36ad5f4b87454"), looks := false }, kinds := [], alts := [], laidByText := true, laidKinds := [.data, .data, .data, .data, .pinned], laidTests := true, laidLooks := .later }
def PathNamesCardSaid : Prop := Claim7.holds Tryd.pinned (.plain (OpenSpec.ofChange pathNamesSpec)) pathNamesCard

/-- THE TIED CARD OF 'liglaw3.PathOf'. -/
def pathOfCard : Claim7 := { stood := { row := pathOfRow, standIns := [], harness := (true, "4e7a4b0efe345482f930fa2c0cab42f239ae6b8635208cfbc6b36ad5f4b87454"), looks := false }, kinds := [], alts := [], laidByText := true, laidKinds := [.data, .data, .data, .data, .pinned], laidTests := true, laidLooks := .later }
def PathOfCardSaid : Prop := Claim7.holds Tryd.pinned (.plain (OpenSpec.ofChange pathOfSpec)) pathOfCard

/-- THE TIED CARD OF 'liglaw3.PathBack'. -/
def pathBackCard : Claim7 := { stood := { row := pathBackRow, standIns := [], harness := (true, "4e7a4b0efe345482f930fa2c0cab42f239ae6b8635208cfbc6b36ad5f4b87454"), looks := false }, kinds := [], alts := [], laidByText := true, laidKinds := [.data, .data, .data, .data, .pinned], laidTests := true, laidLooks := .later }
def PathBackCardSaid : Prop := Claim7.holds Tryd.pinned (.plain (OpenSpec.ofChange pathBackSpec)) pathBackCard

/-- THE SECOND FORM's CARD OF 'liglaw3.PathNumber'. -/
def pathNumberUptoCard : Claim7 := { stood := { row := pathNumberUptoRow, standIns := [], harness := (true, "4e7a4b0efe345482f930fa2c0cab42f239ae6b8635208cfbc6b36ad5f4b87454"), looks := false }, kinds := [], alts := [], laidByText := true, laidKinds := [.data, .data, .data, .data, .pinned], laidTests := true, laidLooks := .later }
def PathNumberUptoCardSaid : Prop := Claim7.holds Tryd.pinned (.plain (OpenSpec.upto pathNumberSpec)) pathNumberUptoCard

/-- THE SECOND FORM's CARD OF 'liglaw3.PathApart'. -/
def pathApartUptoCard : Claim7 := { stood := { row := pathApartUptoRow, standIns := [], harness := (true, "4e7a4b0efe345482f930fa2c0cab42f239ae6b8635208cfbc6b36ad5f4b87454"), looks := false }, kinds := [], alts := [], laidByText := true, laidKinds := [.data, .data, .data, .data, .pinned], laidTests := true, laidLooks := .later }
def PathApartUptoCardSaid : Prop := Claim7.holds Tryd.pinned (.plain (OpenSpec.upto pathApartSpec)) pathApartUptoCard

/-- THE SECOND FORM's CARD OF 'liglaw3.PathNames'. -/
def pathNamesUptoCard : Claim7 := { stood := { row := pathNamesUptoRow, standIns := [], harness := (true, "4e7a4b0efe345482f930fa2c0cab42f239ae6b8635208cfbc6b36ad5f4b87454"), looks := false }, kinds := [], alts := [], laidByText := true, laidKinds := [.data, .data, .data, .data, .pinned], laidTests := true, laidLooks := .later }
def PathNamesUptoCardSaid : Prop := Claim7.holds Tryd.pinned (.plain (OpenSpec.upto pathNamesSpec)) pathNamesUptoCard

/-- THE SECOND FORM's CARD OF 'liglaw3.PathOf'. -/
def pathOfUptoCard : Claim7 := { stood := { row := pathOfUptoRow, standIns := [], harness := (true, "4e7a4b0efe345482f930fa2c0cab42f239ae6b8635208cfbc6b36ad5f4b87454"), looks := false }, kinds := [], alts := [], laidByText := true, laidKinds := [.data, .data, .data, .data, .pinned], laidTests := true, laidLooks := .later }
def PathOfUptoCardSaid : Prop := Claim7.holds Tryd.pinned (.plain (OpenSpec.upto pathOfSpec)) pathOfUptoCard

/-- THE SECOND FORM's CARD OF 'liglaw3.PathBack'. -/
def pathBackUptoCard : Claim7 := { stood := { row := pathBackUptoRow, standIns := [], harness := (true, "4e7a4b0efe345482f930fa2c0cab42f239ae6b8635208cfbc6b36ad5f4b87454"), looks := false }, kinds := [], alts := [], laidByText := true, laidKinds := [.data, .data, .data, .data, .pinned], laidTests := true, laidLooks := .later }
def PathBackUptoCardSaid : Prop := Claim7.holds Tryd.pinned (.plain (OpenSpec.upto pathBackSpec)) pathBackUptoCard
end Rows
end Go.Proofs.YtcgmheacdgcgiaaDoor
