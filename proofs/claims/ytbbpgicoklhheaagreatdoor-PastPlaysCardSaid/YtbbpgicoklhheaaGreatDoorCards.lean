/-
  DERIVED. GIVEN WITH THE SEED: THE CARDS: each row of YtbbpgicoklhheaaGreatDoorRows.lean that lists a variable, with what it lists TIED to the program's text (the seventh form; the later family's looks); each row that meets fmt, with fmt's text TOLD by the authors' own Lean function (tested against real Go, not proved from fmt's source: count such statements apart). THE CARD IS WHAT COUNTS. Prove the row's statement (the work); the ties are given (YtbbpgicoklhheaaGreatDoorTie.lean); close each card by the builder's one call (the guide's Derived/Test/ToyasCard.lean, 'card_holds'). Laid BY PROGRAM, IN A SANDBOX (cutbox-door.mjs). By AI agents, Wed Nov 11 2026. No macro, syntax, notation, axiom, sorry.
-/
import Derived.Test.YtbbpgicoklhheaaGreatDoorRows
import GoSem.ClaimSeven
namespace Go.Proofs.YtbbpgicoklhheaaGreatDoor
namespace Rows

/-- THE TIED CARD OF 'liglaw13.PastPlays'. -/
def pastPlaysCard : Claim7 := { stood := { row := pastPlaysRow, standIns := [], harness := (true, "0ebb9ae57f9e44663dbb7e494a53b3841fdc4b98596fe9a5a1e47dfc13ec826e"), looks := false }, kinds := [], alts := [], laidByText := true, laidKinds := [.data], laidTests := true, laidLooks := .later }
def PastPlaysCardSaid : Prop := Claim7.holds Tryz.pinned (.plain (OpenSpec.ofChange pastPlaysSpec)) pastPlaysCard

/-- THE SECOND FORM's CARD OF 'liglaw13.PastPlays'. -/
def pastPlaysUptoCard : Claim7 := { stood := { row := pastPlaysUptoRow, standIns := [], harness := (true, "0ebb9ae57f9e44663dbb7e494a53b3841fdc4b98596fe9a5a1e47dfc13ec826e"), looks := false }, kinds := [], alts := [], laidByText := true, laidKinds := [.data], laidTests := true, laidLooks := .later }
def PastPlaysUptoCardSaid : Prop := Claim7.holds Tryz.pinned (.plain (OpenSpec.upto pastPlaysSpec)) pastPlaysUptoCard
end Rows
end Go.Proofs.YtbbpgicoklhheaaGreatDoor
