/-
  DERIVED. GIVEN WITH THE SEED: THE CARDS: each row of YtophhppklaofaaaDoorRows.lean that lists a variable, with what it lists TIED to the program's text (the seventh form; the later family's looks); each row that meets fmt, with fmt's text TOLD by the authors' own Lean function (tested against real Go, not proved from fmt's source: count such statements apart). THE CARD IS WHAT COUNTS. Prove the row's statement (the work); the ties are given (YtophhppklaofaaaDoorTie.lean); close each card by the builder's one call (the guide's Derived/Test/ToyasCard.lean, 'card_holds'). Laid BY PROGRAM, IN A SANDBOX (cutbox-door.mjs). By AI agents, Wed Nov 11 2026. No macro, syntax, notation, axiom, sorry.
-/
import Derived.Test.YtophhppklaofaaaDoorRows
import GoSem.ClaimSeven
namespace Go.Proofs.YtophhppklaofaaaDoor
namespace Rows

/-- THE TIED CARD OF 'liglaw2.ShaCuts'. -/
def shaCutsCard : Claim7 := { stood := { row := shaCutsRow, standIns := [], harness := (true, "9def2bdcc0b7c5a21f75902ba8cf0e834f51458baed1823ac859fea21c5d9973"), looks := false }, kinds := [], alts := [], laidByText := true, laidKinds := [.data], laidTests := true, laidLooks := .later }
def ShaCutsCardSaid : Prop := Claim7.holds Tryd.pinned (.plain (OpenSpec.ofChange shaCutsSpec)) shaCutsCard

/-- THE TIED CARD OF 'liglaw2.ShaTells'. -/
def shaTellsCard : Claim7 := { stood := { row := shaTellsRow, standIns := [], harness := (true, "9def2bdcc0b7c5a21f75902ba8cf0e834f51458baed1823ac859fea21c5d9973"), looks := false }, kinds := [], alts := [], laidByText := true, laidKinds := [.data], laidTests := true, laidLooks := .later }
def ShaTellsCardSaid : Prop := Claim7.holds Tryd.pinned (.plain (OpenSpec.ofChange shaTellsSpec)) shaTellsCard

/-- THE TIED CARD OF 'liglaw2.ShaLess'. -/
def shaLessCard : Claim7 := { stood := { row := shaLessRow, standIns := [], harness := (true, "9def2bdcc0b7c5a21f75902ba8cf0e834f51458baed1823ac859fea21c5d9973"), looks := false }, kinds := [], alts := [], laidByText := true, laidKinds := [.data], laidTests := true, laidLooks := .later }
def ShaLessCardSaid : Prop := Claim7.holds Tryd.pinned (.plain (OpenSpec.ofChange shaLessSpec)) shaLessCard

/-- THE TIED CARD OF 'liglaw2.ShaHex'. -/
def shaHexCard : Claim7 := { stood := { row := shaHexRow, standIns := [], harness := (true, "9def2bdcc0b7c5a21f75902ba8cf0e834f51458baed1823ac859fea21c5d9973"), looks := false }, kinds := [], alts := [], laidByText := true, laidKinds := [.data], laidTests := true, laidLooks := .later }
def ShaHexCardSaid : Prop := Claim7.holds Tryd.pinned (.plain (OpenSpec.ofChange shaHexSpec)) shaHexCard

/-- THE TIED CARD OF 'liglaw11.FrameTurned'. -/
def frameTurnedCard : Claim7 := { stood := { row := frameTurnedRow, standIns := [], harness := (true, "9def2bdcc0b7c5a21f75902ba8cf0e834f51458baed1823ac859fea21c5d9973"), looks := false }, kinds := [], alts := [], laidByText := true, laidKinds := [.data], laidTests := true, laidLooks := .later }
def FrameTurnedCardSaid : Prop := Claim7.holds Tryd.pinned (.plain (OpenSpec.ofChange frameTurnedSpec)) frameTurnedCard

/-- THE TIED CARD OF 'liglaw11.FrameAll'. -/
def frameAllCard : Claim7 := { stood := { row := frameAllRow, standIns := [], harness := (true, "9def2bdcc0b7c5a21f75902ba8cf0e834f51458baed1823ac859fea21c5d9973"), looks := false }, kinds := [], alts := [], laidByText := true, laidKinds := [.data], laidTests := true, laidLooks := .later }
def FrameAllCardSaid : Prop := Claim7.holds Tryd.pinned (.plain (OpenSpec.ofChange frameAllSpec)) frameAllCard

/-- THE TIED CARD OF 'liglaw11.FrameTells'. -/
def frameTellsCard : Claim7 := { stood := { row := frameTellsRow, standIns := [], harness := (true, "9def2bdcc0b7c5a21f75902ba8cf0e834f51458baed1823ac859fea21c5d9973"), looks := false }, kinds := [], alts := [], laidByText := true, laidKinds := [.data], laidTests := true, laidLooks := .later }
def FrameTellsCardSaid : Prop := Claim7.holds Tryd.pinned (.plain (OpenSpec.ofChange frameTellsSpec)) frameTellsCard

/-- THE TIED CARD OF 'liglaw5.PacketTells'. -/
def packetTellsCard : Claim7 := { stood := { row := packetTellsRow, standIns := [], harness := (true, "9def2bdcc0b7c5a21f75902ba8cf0e834f51458baed1823ac859fea21c5d9973"), looks := false }, kinds := [], alts := [], laidByText := true, laidKinds := [.data], laidTests := true, laidLooks := .later }
def PacketTellsCardSaid : Prop := Claim7.holds Tryd.pinned (.plain (OpenSpec.ofChange packetTellsSpec)) packetTellsCard

/-- THE TIED CARD OF 'liglaw5.PacketBack'. -/
def packetBackCard : Claim7 := { stood := { row := packetBackRow, standIns := [], harness := (true, "9def2bdcc0b7c5a21f75902ba8cf0e834f51458baed1823ac859fea21c5d9973"), looks := false }, kinds := [], alts := [], laidByText := true, laidKinds := [.data], laidTests := true, laidLooks := .later }
def PacketBackCardSaid : Prop := Claim7.holds Tryd.pinned (.plain (OpenSpec.ofChange packetBackSpec)) packetBackCard

/-- THE TIED CARD OF 'liglaw6.TreeDeep'. -/
def treeDeepCard : Claim7 := { stood := { row := treeDeepRow, standIns := [], harness := (true, "9def2bdcc0b7c5a21f75902ba8cf0e834f51458baed1823ac859fea21c5d9973"), looks := false }, kinds := [], alts := [], laidByText := true, laidKinds := [.data], laidTests := true, laidLooks := .later }
def TreeDeepCardSaid : Prop := Claim7.holds Tryd.pinned (.plain (OpenSpec.ofChange treeDeepSpec)) treeDeepCard

/-- THE TIED CARD OF 'liglaw6.TreeGrows'. -/
def treeGrowsCard : Claim7 := { stood := { row := treeGrowsRow, standIns := [], harness := (true, "9def2bdcc0b7c5a21f75902ba8cf0e834f51458baed1823ac859fea21c5d9973"), looks := false }, kinds := [], alts := [], laidByText := true, laidKinds := [.data], laidTests := true, laidLooks := .later }
def TreeGrowsCardSaid : Prop := Claim7.holds Tryd.pinned (.plain (OpenSpec.ofChange treeGrowsSpec)) treeGrowsCard

/-- THE TIED CARD OF 'liglaw6.TreeFolds'. -/
def treeFoldsCard : Claim7 := { stood := { row := treeFoldsRow, standIns := [], harness := (true, "9def2bdcc0b7c5a21f75902ba8cf0e834f51458baed1823ac859fea21c5d9973"), looks := false }, kinds := [], alts := [], laidByText := true, laidKinds := [.data], laidTests := true, laidLooks := .later }
def TreeFoldsCardSaid : Prop := Claim7.holds Tryd.pinned (.plain (OpenSpec.ofChange treeFoldsSpec)) treeFoldsCard

/-- THE TIED CARD OF 'liglaw6.TreeTells'. -/
def treeTellsCard : Claim7 := { stood := { row := treeTellsRow, standIns := [], harness := (true, "9def2bdcc0b7c5a21f75902ba8cf0e834f51458baed1823ac859fea21c5d9973"), looks := false }, kinds := [], alts := [], laidByText := true, laidKinds := [.data], laidTests := true, laidLooks := .later }
def TreeTellsCardSaid : Prop := Claim7.holds Tryd.pinned (.plain (OpenSpec.ofChange treeTellsSpec)) treeTellsCard

/-- THE SECOND FORM's CARD OF 'liglaw2.ShaCuts'. -/
def shaCutsUptoCard : Claim7 := { stood := { row := shaCutsUptoRow, standIns := [], harness := (true, "9def2bdcc0b7c5a21f75902ba8cf0e834f51458baed1823ac859fea21c5d9973"), looks := false }, kinds := [], alts := [], laidByText := true, laidKinds := [.data], laidTests := true, laidLooks := .later }
def ShaCutsUptoCardSaid : Prop := Claim7.holds Tryd.pinned (.plain (OpenSpec.upto shaCutsSpec)) shaCutsUptoCard

/-- THE SECOND FORM's CARD OF 'liglaw2.ShaTells'. -/
def shaTellsUptoCard : Claim7 := { stood := { row := shaTellsUptoRow, standIns := [], harness := (true, "9def2bdcc0b7c5a21f75902ba8cf0e834f51458baed1823ac859fea21c5d9973"), looks := false }, kinds := [], alts := [], laidByText := true, laidKinds := [.data], laidTests := true, laidLooks := .later }
def ShaTellsUptoCardSaid : Prop := Claim7.holds Tryd.pinned (.plain (OpenSpec.upto shaTellsSpec)) shaTellsUptoCard

/-- THE SECOND FORM's CARD OF 'liglaw2.ShaLess'. -/
def shaLessUptoCard : Claim7 := { stood := { row := shaLessUptoRow, standIns := [], harness := (true, "9def2bdcc0b7c5a21f75902ba8cf0e834f51458baed1823ac859fea21c5d9973"), looks := false }, kinds := [], alts := [], laidByText := true, laidKinds := [.data], laidTests := true, laidLooks := .later }
def ShaLessUptoCardSaid : Prop := Claim7.holds Tryd.pinned (.plain (OpenSpec.upto shaLessSpec)) shaLessUptoCard

/-- THE SECOND FORM's CARD OF 'liglaw2.ShaHex'. -/
def shaHexUptoCard : Claim7 := { stood := { row := shaHexUptoRow, standIns := [], harness := (true, "9def2bdcc0b7c5a21f75902ba8cf0e834f51458baed1823ac859fea21c5d9973"), looks := false }, kinds := [], alts := [], laidByText := true, laidKinds := [.data], laidTests := true, laidLooks := .later }
def ShaHexUptoCardSaid : Prop := Claim7.holds Tryd.pinned (.plain (OpenSpec.upto shaHexSpec)) shaHexUptoCard

/-- THE SECOND FORM's CARD OF 'liglaw11.FrameTurned'. -/
def frameTurnedUptoCard : Claim7 := { stood := { row := frameTurnedUptoRow, standIns := [], harness := (true, "9def2bdcc0b7c5a21f75902ba8cf0e834f51458baed1823ac859fea21c5d9973"), looks := false }, kinds := [], alts := [], laidByText := true, laidKinds := [.data], laidTests := true, laidLooks := .later }
def FrameTurnedUptoCardSaid : Prop := Claim7.holds Tryd.pinned (.plain (OpenSpec.upto frameTurnedSpec)) frameTurnedUptoCard

/-- THE SECOND FORM's CARD OF 'liglaw11.FrameAll'. -/
def frameAllUptoCard : Claim7 := { stood := { row := frameAllUptoRow, standIns := [], harness := (true, "9def2bdcc0b7c5a21f75902ba8cf0e834f51458baed1823ac859fea21c5d9973"), looks := false }, kinds := [], alts := [], laidByText := true, laidKinds := [.data], laidTests := true, laidLooks := .later }
def FrameAllUptoCardSaid : Prop := Claim7.holds Tryd.pinned (.plain (OpenSpec.upto frameAllSpec)) frameAllUptoCard

/-- THE SECOND FORM's CARD OF 'liglaw11.FrameTells'. -/
def frameTellsUptoCard : Claim7 := { stood := { row := frameTellsUptoRow, standIns := [], harness := (true, "9def2bdcc0b7c5a21f75902ba8cf0e834f51458baed1823ac859fea21c5d9973"), looks := false }, kinds := [], alts := [], laidByText := true, laidKinds := [.data], laidTests := true, laidLooks := .later }
def FrameTellsUptoCardSaid : Prop := Claim7.holds Tryd.pinned (.plain (OpenSpec.upto frameTellsSpec)) frameTellsUptoCard

/-- THE SECOND FORM's CARD OF 'liglaw5.PacketTells'. -/
def packetTellsUptoCard : Claim7 := { stood := { row := packetTellsUptoRow, standIns := [], harness := (true, "9def2bdcc0b7c5a21f75902ba8cf0e834f51458baed1823ac859fea21c5d9973"), looks := false }, kinds := [], alts := [], laidByText := true, laidKinds := [.data], laidTests := true, laidLooks := .later }
def PacketTellsUptoCardSaid : Prop := Claim7.holds Tryd.pinned (.plain (OpenSpec.upto packetTellsSpec)) packetTellsUptoCard

/-- THE SECOND FORM's CARD OF 'liglaw5.PacketBack'. -/
def packetBackUptoCard : Claim7 := { stood := { row := packetBackUptoRow, standIns := [], harness := (true, "9def2bdcc0b7c5a21f75902ba8cf0e834f51458baed1823ac859fea21c5d9973"), looks := false }, kinds := [], alts := [], laidByText := true, laidKinds := [.data], laidTests := true, laidLooks := .later }
def PacketBackUptoCardSaid : Prop := Claim7.holds Tryd.pinned (.plain (OpenSpec.upto packetBackSpec)) packetBackUptoCard

/-- THE SECOND FORM's CARD OF 'liglaw6.TreeDeep'. -/
def treeDeepUptoCard : Claim7 := { stood := { row := treeDeepUptoRow, standIns := [], harness := (true, "9def2bdcc0b7c5a21f75902ba8cf0e834f51458baed1823ac859fea21c5d9973"), looks := false }, kinds := [], alts := [], laidByText := true, laidKinds := [.data], laidTests := true, laidLooks := .later }
def TreeDeepUptoCardSaid : Prop := Claim7.holds Tryd.pinned (.plain (OpenSpec.upto treeDeepSpec)) treeDeepUptoCard

/-- THE SECOND FORM's CARD OF 'liglaw6.TreeGrows'. -/
def treeGrowsUptoCard : Claim7 := { stood := { row := treeGrowsUptoRow, standIns := [], harness := (true, "9def2bdcc0b7c5a21f75902ba8cf0e834f51458baed1823ac859fea21c5d9973"), looks := false }, kinds := [], alts := [], laidByText := true, laidKinds := [.data], laidTests := true, laidLooks := .later }
def TreeGrowsUptoCardSaid : Prop := Claim7.holds Tryd.pinned (.plain (OpenSpec.upto treeGrowsSpec)) treeGrowsUptoCard

/-- THE SECOND FORM's CARD OF 'liglaw6.TreeFolds'. -/
def treeFoldsUptoCard : Claim7 := { stood := { row := treeFoldsUptoRow, standIns := [], harness := (true, "9def2bdcc0b7c5a21f75902ba8cf0e834f51458baed1823ac859fea21c5d9973"), looks := false }, kinds := [], alts := [], laidByText := true, laidKinds := [.data], laidTests := true, laidLooks := .later }
def TreeFoldsUptoCardSaid : Prop := Claim7.holds Tryd.pinned (.plain (OpenSpec.upto treeFoldsSpec)) treeFoldsUptoCard

/-- THE SECOND FORM's CARD OF 'liglaw6.TreeTells'. -/
def treeTellsUptoCard : Claim7 := { stood := { row := treeTellsUptoRow, standIns := [], harness := (true, "9def2bdcc0b7c5a21f75902ba8cf0e834f51458baed1823ac859fea21c5d9973"), looks := false }, kinds := [], alts := [], laidByText := true, laidKinds := [.data], laidTests := true, laidLooks := .later }
def TreeTellsUptoCardSaid : Prop := Claim7.holds Tryd.pinned (.plain (OpenSpec.upto treeTellsSpec)) treeTellsUptoCard
end Rows
end Go.Proofs.YtophhppklaofaaaDoor
