/-
  DERIVED. GIVEN WITH THE SEED: THE CARDS: each row of YtbjmcmgekcmbpabDoorRows.lean that lists a variable, with what it lists TIED to the program's text (the seventh form; the later family's looks); each row that meets fmt, with fmt's text TOLD by the authors' own Lean function (tested against real Go, not proved from fmt's source: count such statements apart). THE CARD IS WHAT COUNTS. Prove the row's statement (the work); the ties are given (YtbjmcmgekcmbpabDoorTie.lean); close each card by the builder's one call (the guide's Derived/Test/ToyasCard.lean, 'card_holds'). Laid BY PROGRAM, IN A SANDBOX (cutbox-door.mjs). By AI agents, Wed Nov 11 2026. No macro, syntax, notation, axiom, sorry.
-/
import Derived.Test.YtbjmcmgekcmbpabDoorRows
import GoSem.ClaimSeven
namespace Go.Proofs.YtbjmcmgekcmbpabDoor
namespace Rows

/-- THE TIED CARD OF 'liglaw21.ConfBack'. -/
def confBackCard : Claim7 := { stood := { row := confBackRow, standIns := [], harness := (true, "410324baaf118bc29f658eba779de51ffa0a4b890d42ffe04ae5e95a5db7270a"), looks := false }, kinds := [], alts := [], laidByText := true, laidKinds := [.data, .data, .data, .data, .pinned], laidTests := true, laidLooks := .later }
def ConfBackCardSaid : Prop := Claim7.holds Tryd.pinned (.plain (OpenSpec.ofChange confBackSpec)) confBackCard

/-- THE TIED CARD OF 'liglaw21.ConfNotes'. -/
def confNotesCard : Claim7 := { stood := { row := confNotesRow, standIns := [], harness := (true, "410324baaf118bc29f658eba779de51ffa0a4b890d42ffe04ae5e95a5db7270a"), looks := false }, kinds := [], alts := [], laidByText := true, laidKinds := [.data, .data, .data, .data, .pinned], laidTests := true, laidLooks := .later }
def ConfNotesCardSaid : Prop := Claim7.holds Tryd.pinned (.plain (OpenSpec.ofChange confNotesSpec)) confNotesCard

/-- THE SECOND FORM's CARD OF 'liglaw21.ConfBack'. -/
def confBackUptoCard : Claim7 := { stood := { row := confBackUptoRow, standIns := [], harness := (true, "410324baaf118bc29f658eba779de51ffa0a4b890d42ffe04ae5e95a5db7270a"), looks := false }, kinds := [], alts := [], laidByText := true, laidKinds := [.data, .data, .data, .data, .pinned], laidTests := true, laidLooks := .later }
def ConfBackUptoCardSaid : Prop := Claim7.holds Tryd.pinned (.plain (OpenSpec.upto confBackSpec)) confBackUptoCard

/-- THE SECOND FORM's CARD OF 'liglaw21.ConfNotes'. -/
def confNotesUptoCard : Claim7 := { stood := { row := confNotesUptoRow, standIns := [], harness := (true, "410324baaf118bc29f658eba779de51ffa0a4b890d42ffe04ae5e95a5db7270a"), looks := false }, kinds := [], alts := [], laidByText := true, laidKinds := [.data, .data, .data, .data, .pinned], laidTests := true, laidLooks := .later }
def ConfNotesUptoCardSaid : Prop := Claim7.holds Tryd.pinned (.plain (OpenSpec.upto confNotesSpec)) confNotesUptoCard
end Rows
end Go.Proofs.YtbjmcmgekcmbpabDoor
