/-
  DERIVED. GIVEN WITH THE SEED: THE CARDS: each row of YthomoliklfmnkaaDoorRows.lean that lists a variable, with what it lists TIED to the program's text (the seventh form; the later family's looks); each row that meets fmt, with fmt's text TOLD by the authors' own Lean function (tested against real Go, not proved from fmt's source: count such statements apart). THE CARD IS WHAT COUNTS. Prove the row's statement (the work); the ties are given (YthomoliklfmnkaaDoorTie.lean); close each card by the builder's one call (the guide's Derived/Test/ToyasCard.lean, 'card_holds'). Laid BY PROGRAM, IN A SANDBOX (cutbox-door.mjs). By AI agents, Wed Nov 11 2026. No macro, syntax, notation, axiom, sorry.
-/
import Derived.Test.YthomoliklfmnkaaDoorRows
import GoSem.ClaimSeven
namespace Go.Proofs.YthomoliklfmnkaaDoor
namespace Rows

/-- THE TIED CARD OF 'liglaw7.ProofTells'. -/
def proofTellsCard : Claim7 := { stood := { row := proofTellsRow, standIns := [], harness := (true, "c13c60bd329672cc4df1c179dea942ff649f387ef34bde4546d5a04fadfb8dea"), looks := false }, kinds := [], alts := [], laidByText := true, laidKinds := [.data], laidTests := true, laidLooks := .later }
def ProofTellsCardSaid : Prop := Claim7.holds Tryd.pinned (.plain (OpenSpec.ofChange proofTellsSpec)) proofTellsCard

/-- THE TIED CARD OF 'liglaw7.ProofShows'. -/
def proofShowsCard : Claim7 := { stood := { row := proofShowsRow, standIns := [], harness := (true, "c13c60bd329672cc4df1c179dea942ff649f387ef34bde4546d5a04fadfb8dea"), looks := false }, kinds := [], alts := [], laidByText := true, laidKinds := [.data], laidTests := true, laidLooks := .later }
def ProofShowsCardSaid : Prop := Claim7.holds Tryd.pinned (.plain (OpenSpec.ofChange proofShowsSpec)) proofShowsCard

/-- THE TIED CARD OF 'liglaw7.ProofForged'. -/
def proofForgedCard : Claim7 := { stood := { row := proofForgedRow, standIns := [], harness := (true, "c13c60bd329672cc4df1c179dea942ff649f387ef34bde4546d5a04fadfb8dea"), looks := false }, kinds := [], alts := [], laidByText := true, laidKinds := [.data], laidTests := true, laidLooks := .later }
def ProofForgedCardSaid : Prop := Claim7.holds Tryd.pinned (.plain (OpenSpec.ofChange proofForgedSpec)) proofForgedCard

/-- THE TIED CARD OF 'liglaw12.StoreOrder'. -/
def storeOrderCard : Claim7 := { stood := { row := storeOrderRow, standIns := [], harness := (true, "c13c60bd329672cc4df1c179dea942ff649f387ef34bde4546d5a04fadfb8dea"), looks := false }, kinds := [], alts := [], laidByText := true, laidKinds := [.data], laidTests := true, laidLooks := .later }
def StoreOrderCardSaid : Prop := Claim7.holds Tryd.pinned (.plain (OpenSpec.ofChange storeOrderSpec)) storeOrderCard

/-- THE TIED CARD OF 'liglaw12.StoreCopies'. -/
def storeCopiesCard : Claim7 := { stood := { row := storeCopiesRow, standIns := [], harness := (true, "c13c60bd329672cc4df1c179dea942ff649f387ef34bde4546d5a04fadfb8dea"), looks := false }, kinds := [], alts := [], laidByText := true, laidKinds := [.data], laidTests := true, laidLooks := .later }
def StoreCopiesCardSaid : Prop := Claim7.holds Tryd.pinned (.plain (OpenSpec.ofChange storeCopiesSpec)) storeCopiesCard

/-- THE TIED CARD OF 'liglaw12.StorePlays'. -/
def storePlaysCard : Claim7 := { stood := { row := storePlaysRow, standIns := [], harness := (true, "c13c60bd329672cc4df1c179dea942ff649f387ef34bde4546d5a04fadfb8dea"), looks := false }, kinds := [], alts := [], laidByText := true, laidKinds := [.data], laidTests := true, laidLooks := .later }
def StorePlaysCardSaid : Prop := Claim7.holds Tryd.pinned (.plain (OpenSpec.ofChange storePlaysSpec)) storePlaysCard

/-- THE TIED CARD OF 'liglaw13.PastStays'. -/
def pastStaysCard : Claim7 := { stood := { row := pastStaysRow, standIns := [], harness := (true, "c13c60bd329672cc4df1c179dea942ff649f387ef34bde4546d5a04fadfb8dea"), looks := false }, kinds := [], alts := [], laidByText := true, laidKinds := [.data], laidTests := true, laidLooks := .later }
def PastStaysCardSaid : Prop := Claim7.holds Tryd.pinned (.plain (OpenSpec.ofChange pastStaysSpec)) pastStaysCard

/-- THE TIED CARD OF 'liglaw7.ProofBytes'. -/
def proofBytesCard : Claim7 := { stood := { row := proofBytesRow, standIns := [], harness := (true, "c13c60bd329672cc4df1c179dea942ff649f387ef34bde4546d5a04fadfb8dea"), looks := false }, kinds := [], alts := [], laidByText := true, laidKinds := [.data], laidTests := true, laidLooks := .later }
def ProofBytesCardSaid : Prop := Claim7.holds Tryd.pinned (.plain (OpenSpec.ofChange proofBytesSpec)) proofBytesCard

/-- THE TIED CARD OF 'liglaw12.StoreProves'. -/
def storeProvesCard : Claim7 := { stood := { row := storeProvesRow, standIns := [], harness := (true, "c13c60bd329672cc4df1c179dea942ff649f387ef34bde4546d5a04fadfb8dea"), looks := false }, kinds := [], alts := [], laidByText := true, laidKinds := [.data], laidTests := true, laidLooks := .later }
def StoreProvesCardSaid : Prop := Claim7.holds Tryd.pinned (.plain (OpenSpec.ofChange storeProvesSpec)) storeProvesCard

/-- THE TIED CARD OF 'liglaw13.PastProves'. -/
def pastProvesCard : Claim7 := { stood := { row := pastProvesRow, standIns := [], harness := (true, "c13c60bd329672cc4df1c179dea942ff649f387ef34bde4546d5a04fadfb8dea"), looks := false }, kinds := [], alts := [], laidByText := true, laidKinds := [.data], laidTests := true, laidLooks := .later }
def PastProvesCardSaid : Prop := Claim7.holds Tryd.pinned (.plain (OpenSpec.ofChange pastProvesSpec)) pastProvesCard

/-- THE SECOND FORM's CARD OF 'liglaw7.ProofTells'. -/
def proofTellsUptoCard : Claim7 := { stood := { row := proofTellsUptoRow, standIns := [], harness := (true, "c13c60bd329672cc4df1c179dea942ff649f387ef34bde4546d5a04fadfb8dea"), looks := false }, kinds := [], alts := [], laidByText := true, laidKinds := [.data], laidTests := true, laidLooks := .later }
def ProofTellsUptoCardSaid : Prop := Claim7.holds Tryd.pinned (.plain (OpenSpec.upto proofTellsSpec)) proofTellsUptoCard

/-- THE SECOND FORM's CARD OF 'liglaw7.ProofShows'. -/
def proofShowsUptoCard : Claim7 := { stood := { row := proofShowsUptoRow, standIns := [], harness := (true, "c13c60bd329672cc4df1c179dea942ff649f387ef34bde4546d5a04fadfb8dea"), looks := false }, kinds := [], alts := [], laidByText := true, laidKinds := [.data], laidTests := true, laidLooks := .later }
def ProofShowsUptoCardSaid : Prop := Claim7.holds Tryd.pinned (.plain (OpenSpec.upto proofShowsSpec)) proofShowsUptoCard

/-- THE SECOND FORM's CARD OF 'liglaw7.ProofForged'. -/
def proofForgedUptoCard : Claim7 := { stood := { row := proofForgedUptoRow, standIns := [], harness := (true, "c13c60bd329672cc4df1c179dea942ff649f387ef34bde4546d5a04fadfb8dea"), looks := false }, kinds := [], alts := [], laidByText := true, laidKinds := [.data], laidTests := true, laidLooks := .later }
def ProofForgedUptoCardSaid : Prop := Claim7.holds Tryd.pinned (.plain (OpenSpec.upto proofForgedSpec)) proofForgedUptoCard

/-- THE SECOND FORM's CARD OF 'liglaw12.StoreOrder'. -/
def storeOrderUptoCard : Claim7 := { stood := { row := storeOrderUptoRow, standIns := [], harness := (true, "c13c60bd329672cc4df1c179dea942ff649f387ef34bde4546d5a04fadfb8dea"), looks := false }, kinds := [], alts := [], laidByText := true, laidKinds := [.data], laidTests := true, laidLooks := .later }
def StoreOrderUptoCardSaid : Prop := Claim7.holds Tryd.pinned (.plain (OpenSpec.upto storeOrderSpec)) storeOrderUptoCard

/-- THE SECOND FORM's CARD OF 'liglaw12.StoreCopies'. -/
def storeCopiesUptoCard : Claim7 := { stood := { row := storeCopiesUptoRow, standIns := [], harness := (true, "c13c60bd329672cc4df1c179dea942ff649f387ef34bde4546d5a04fadfb8dea"), looks := false }, kinds := [], alts := [], laidByText := true, laidKinds := [.data], laidTests := true, laidLooks := .later }
def StoreCopiesUptoCardSaid : Prop := Claim7.holds Tryd.pinned (.plain (OpenSpec.upto storeCopiesSpec)) storeCopiesUptoCard

/-- THE SECOND FORM's CARD OF 'liglaw12.StorePlays'. -/
def storePlaysUptoCard : Claim7 := { stood := { row := storePlaysUptoRow, standIns := [], harness := (true, "c13c60bd329672cc4df1c179dea942ff649f387ef34bde4546d5a04fadfb8dea"), looks := false }, kinds := [], alts := [], laidByText := true, laidKinds := [.data], laidTests := true, laidLooks := .later }
def StorePlaysUptoCardSaid : Prop := Claim7.holds Tryd.pinned (.plain (OpenSpec.upto storePlaysSpec)) storePlaysUptoCard

/-- THE SECOND FORM's CARD OF 'liglaw13.PastStays'. -/
def pastStaysUptoCard : Claim7 := { stood := { row := pastStaysUptoRow, standIns := [], harness := (true, "c13c60bd329672cc4df1c179dea942ff649f387ef34bde4546d5a04fadfb8dea"), looks := false }, kinds := [], alts := [], laidByText := true, laidKinds := [.data], laidTests := true, laidLooks := .later }
def PastStaysUptoCardSaid : Prop := Claim7.holds Tryd.pinned (.plain (OpenSpec.upto pastStaysSpec)) pastStaysUptoCard

/-- THE SECOND FORM's CARD OF 'liglaw7.ProofBytes'. -/
def proofBytesUptoCard : Claim7 := { stood := { row := proofBytesUptoRow, standIns := [], harness := (true, "c13c60bd329672cc4df1c179dea942ff649f387ef34bde4546d5a04fadfb8dea"), looks := false }, kinds := [], alts := [], laidByText := true, laidKinds := [.data], laidTests := true, laidLooks := .later }
def ProofBytesUptoCardSaid : Prop := Claim7.holds Tryd.pinned (.plain (OpenSpec.upto proofBytesSpec)) proofBytesUptoCard

/-- THE SECOND FORM's CARD OF 'liglaw12.StoreProves'. -/
def storeProvesUptoCard : Claim7 := { stood := { row := storeProvesUptoRow, standIns := [], harness := (true, "c13c60bd329672cc4df1c179dea942ff649f387ef34bde4546d5a04fadfb8dea"), looks := false }, kinds := [], alts := [], laidByText := true, laidKinds := [.data], laidTests := true, laidLooks := .later }
def StoreProvesUptoCardSaid : Prop := Claim7.holds Tryd.pinned (.plain (OpenSpec.upto storeProvesSpec)) storeProvesUptoCard

/-- THE SECOND FORM's CARD OF 'liglaw13.PastProves'. -/
def pastProvesUptoCard : Claim7 := { stood := { row := pastProvesUptoRow, standIns := [], harness := (true, "c13c60bd329672cc4df1c179dea942ff649f387ef34bde4546d5a04fadfb8dea"), looks := false }, kinds := [], alts := [], laidByText := true, laidKinds := [.data], laidTests := true, laidLooks := .later }
def PastProvesUptoCardSaid : Prop := Claim7.holds Tryd.pinned (.plain (OpenSpec.upto pastProvesSpec)) pastProvesUptoCard
end Rows
end Go.Proofs.YthomoliklfmnkaaDoor
