/-
  DERIVED. GIVEN WITH THE SEED: THE CARDS: each row of YtbbpgicoklhheaaDoorRows.lean that lists a variable, with what it lists TIED to the program's text (the seventh form; the later family's looks); each row that meets fmt, with fmt's text TOLD by the authors' own Lean function (tested against real Go, not proved from fmt's source: count such statements apart). THE CARD IS WHAT COUNTS. Prove the row's statement (the work); the ties are given (YtbbpgicoklhheaaDoorTie.lean); close each card by the builder's one call (the guide's Derived/Test/ToyasCard.lean, 'card_holds'). Laid BY PROGRAM, IN A SANDBOX (cutbox-door.mjs). By AI agents, Wed Nov 11 2026. No macro, syntax, notation, axiom, sorry.
-/
import Derived.Test.YtbbpgicoklhheaaDoorRows
import GoSem.ClaimSeven
namespace Go.Proofs.YtbbpgicoklhheaaDoor
namespace Rows

/-- THE TIED CARD OF 'liglaw13.PastStays'. -/
def pastStaysCard : Claim7 := { stood := { row := pastStaysRow, standIns := [], harness := (true, "2807ef7923fa34036a0910d0ca19819cb275fa8824e7f99706143f0cab0881be"), looks := false }, kinds := [], alts := [], laidByText := true, laidKinds := [.data], laidTests := true, laidLooks := .later }
def PastStaysCardSaid : Prop := Claim7.holds Tryd.pinned (.plain (OpenSpec.ofChange pastStaysSpec)) pastStaysCard

/-- THE TIED CARD OF 'liglaw13.PastProves'. -/
def pastProvesCard : Claim7 := { stood := { row := pastProvesRow, standIns := [], harness := (true, "2807ef7923fa34036a0910d0ca19819cb275fa8824e7f99706143f0cab0881be"), looks := false }, kinds := [], alts := [], laidByText := true, laidKinds := [.data], laidTests := true, laidLooks := .later }
def PastProvesCardSaid : Prop := Claim7.holds Tryd.pinned (.plain (OpenSpec.ofChange pastProvesSpec)) pastProvesCard

/-- THE SECOND FORM's CARD OF 'liglaw13.PastStays'. -/
def pastStaysUptoCard : Claim7 := { stood := { row := pastStaysUptoRow, standIns := [], harness := (true, "2807ef7923fa34036a0910d0ca19819cb275fa8824e7f99706143f0cab0881be"), looks := false }, kinds := [], alts := [], laidByText := true, laidKinds := [.data], laidTests := true, laidLooks := .later }
def PastStaysUptoCardSaid : Prop := Claim7.holds Tryd.pinned (.plain (OpenSpec.upto pastStaysSpec)) pastStaysUptoCard

/-- THE SECOND FORM's CARD OF 'liglaw13.PastProves'. -/
def pastProvesUptoCard : Claim7 := { stood := { row := pastProvesUptoRow, standIns := [], harness := (true, "2807ef7923fa34036a0910d0ca19819cb275fa8824e7f99706143f0cab0881be"), looks := false }, kinds := [], alts := [], laidByText := true, laidKinds := [.data], laidTests := true, laidLooks := .later }
def PastProvesUptoCardSaid : Prop := Claim7.holds Tryd.pinned (.plain (OpenSpec.upto pastProvesSpec)) pastProvesUptoCard
end Rows
end Go.Proofs.YtbbpgicoklhheaaDoor
