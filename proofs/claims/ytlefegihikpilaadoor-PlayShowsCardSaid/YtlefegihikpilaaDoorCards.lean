/-
  DERIVED. GIVEN WITH THE SEED: THE CARDS: each row of YtlefegihikpilaaDoorRows.lean that lists a variable, with what it lists TIED to the program's text (the seventh form; the later family's looks); each row that meets fmt, with fmt's text TOLD by the authors' own Lean function (tested against real Go, not proved from fmt's source: count such statements apart). THE CARD IS WHAT COUNTS. Prove the row's statement (the work); the ties are given (YtlefegihikpilaaDoorTie.lean); close each card by the builder's one call (the guide's Derived/Test/ToyasCard.lean, 'card_holds'). Laid BY PROGRAM, IN A SANDBOX (cutbox-door.mjs). By AI agents, Wed Nov 11 2026. No macro, syntax, notation, axiom, sorry.
-/
import Derived.Test.YtlefegihikpilaaDoorRows
import GoSem.ClaimSeven
namespace Go.Proofs.YtlefegihikpilaaDoor
namespace Rows

/-- THE TIED CARD OF 'liglaw32.PlayShows'. -/
def playShowsCard : Claim7 := { stood := { row := playShowsRow, standIns := [], harness := (true, "c2e65137e3355d6f7898e3e3816d2eb140a2c2d136cc123ce46a443267c75b70"), looks := false }, kinds := [], alts := [], laidByText := true, laidKinds := [.data, .data, .data], laidTests := true, laidLooks := .later }
def PlayShowsCardSaid : Prop := Claim7.holds Tryd.pinned (.plain (OpenSpec.ofChange playShowsSpec)) playShowsCard

/-- THE TIED CARD OF 'liglaw21.ConfLets'. -/
def confLetsCard : Claim7 := { stood := { row := confLetsRow, standIns := [], harness := (true, "c2e65137e3355d6f7898e3e3816d2eb140a2c2d136cc123ce46a443267c75b70"), looks := false }, kinds := [], alts := [], laidByText := true, laidKinds := [.data, .data, .data, .data, .pinned], laidTests := true, laidLooks := .later }
def ConfLetsCardSaid : Prop := Claim7.holds Tryd.pinned (.plain (OpenSpec.ofChange confLetsSpec)) confLetsCard

/-- THE SECOND FORM's CARD OF 'liglaw32.PlayShows'. -/
def playShowsUptoCard : Claim7 := { stood := { row := playShowsUptoRow, standIns := [], harness := (true, "c2e65137e3355d6f7898e3e3816d2eb140a2c2d136cc123ce46a443267c75b70"), looks := false }, kinds := [], alts := [], laidByText := true, laidKinds := [.data, .data, .data], laidTests := true, laidLooks := .later }
def PlayShowsUptoCardSaid : Prop := Claim7.holds Tryd.pinned (.plain (OpenSpec.upto playShowsSpec)) playShowsUptoCard

/-- THE SECOND FORM's CARD OF 'liglaw21.ConfLets'. -/
def confLetsUptoCard : Claim7 := { stood := { row := confLetsUptoRow, standIns := [], harness := (true, "c2e65137e3355d6f7898e3e3816d2eb140a2c2d136cc123ce46a443267c75b70"), looks := false }, kinds := [], alts := [], laidByText := true, laidKinds := [.data, .data, .data, .data, .pinned], laidTests := true, laidLooks := .later }
def ConfLetsUptoCardSaid : Prop := Claim7.holds Tryd.pinned (.plain (OpenSpec.upto confLetsSpec)) confLetsUptoCard
end Rows
end Go.Proofs.YtlefegihikpilaaDoor
