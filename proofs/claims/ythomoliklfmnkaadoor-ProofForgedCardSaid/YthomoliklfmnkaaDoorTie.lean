/-
  DERIVED. GIVEN WITH THE SEED: THE PROGRAM's TIES (one call each: nine closed facts by the kernel) AND EACH ROW's TIE, after the 31st guide's Derived/Test/Toyas{Tie, Card}.lean. No idea stands in it: it is a product of the set-up. Laid BY PROGRAM, IN A SANDBOX (cutbox-door.mjs). By AI agents, Wed Nov 11 2026. No macro, syntax, notation, axiom, sorry.
-/
import Derived.Test.YthomoliklfmnkaaDoorRows
import Derived.LaidByTextLater
import Derived.SevenTiedAt
import Derived.LaidSub
import Derived.LaidOnce
namespace Go.Proofs.YthomoliklfmnkaaDoor
open Go
set_option maxRecDepth 100000
theorem seatTie1 : Tryd.prog.laidByTextLater [("lighterman/sha.steps", Rows.laid_lighterman_sha_steps)] [.data] true :=
  Program.laidByTextLater_by_one 14 8 65 (by kernel_rfl) (by kernel_rfl) (by kernel_rfl) (by kernel_rfl) (by kernel_rfl) (by kernel_rfl) (fun _ _ => by kernel_rfl)
theorem noOwnUnsafe : Tryd.pinned.checked.prog.headLifts.contains "ownunsafe" = false := by kernel_rfl
theorem tie : Tryd.prog.laidByTextLater [("lighterman/sha.steps", Rows.laid_lighterman_sha_steps)] [.data] true :=
  Program.laidByTextLater.sub seatTie1 ["lighterman/sha.steps"] (by kernel_rfl) (by kernel_rfl)
theorem proofTells_row_tie : Rows.proofTellsRow.laidByTextAt .later Tryd.pinned [.data] true :=
  OpenClaim.laidByTextAt_later rfl rfl tie noOwnUnsafe
theorem proofShows_row_tie : Rows.proofShowsRow.laidByTextAt .later Tryd.pinned [.data] true :=
  OpenClaim.laidByTextAt_later rfl rfl tie noOwnUnsafe
theorem proofForged_row_tie : Rows.proofForgedRow.laidByTextAt .later Tryd.pinned [.data] true :=
  OpenClaim.laidByTextAt_later rfl rfl tie noOwnUnsafe
theorem storeOrder_row_tie : Rows.storeOrderRow.laidByTextAt .later Tryd.pinned [.data] true :=
  OpenClaim.laidByTextAt_later rfl rfl tie noOwnUnsafe
theorem storeCopies_row_tie : Rows.storeCopiesRow.laidByTextAt .later Tryd.pinned [.data] true :=
  OpenClaim.laidByTextAt_later rfl rfl tie noOwnUnsafe
theorem storePlays_row_tie : Rows.storePlaysRow.laidByTextAt .later Tryd.pinned [.data] true :=
  OpenClaim.laidByTextAt_later rfl rfl tie noOwnUnsafe
theorem pastStays_row_tie : Rows.pastStaysRow.laidByTextAt .later Tryd.pinned [.data] true :=
  OpenClaim.laidByTextAt_later rfl rfl tie noOwnUnsafe
theorem proofBytes_row_tie : Rows.proofBytesRow.laidByTextAt .later Tryd.pinned [.data] true :=
  OpenClaim.laidByTextAt_later rfl rfl tie noOwnUnsafe
theorem storeProves_row_tie : Rows.storeProvesRow.laidByTextAt .later Tryd.pinned [.data] true :=
  OpenClaim.laidByTextAt_later rfl rfl tie noOwnUnsafe
theorem pastProves_row_tie : Rows.pastProvesRow.laidByTextAt .later Tryd.pinned [.data] true :=
  OpenClaim.laidByTextAt_later rfl rfl tie noOwnUnsafe
theorem proofTellsUpto_row_tie : Rows.proofTellsUptoRow.laidByTextAt .later Tryd.pinned [.data] true :=
  OpenClaim.laidByTextAt_later rfl rfl tie noOwnUnsafe
theorem proofShowsUpto_row_tie : Rows.proofShowsUptoRow.laidByTextAt .later Tryd.pinned [.data] true :=
  OpenClaim.laidByTextAt_later rfl rfl tie noOwnUnsafe
theorem proofForgedUpto_row_tie : Rows.proofForgedUptoRow.laidByTextAt .later Tryd.pinned [.data] true :=
  OpenClaim.laidByTextAt_later rfl rfl tie noOwnUnsafe
theorem storeOrderUpto_row_tie : Rows.storeOrderUptoRow.laidByTextAt .later Tryd.pinned [.data] true :=
  OpenClaim.laidByTextAt_later rfl rfl tie noOwnUnsafe
theorem storeCopiesUpto_row_tie : Rows.storeCopiesUptoRow.laidByTextAt .later Tryd.pinned [.data] true :=
  OpenClaim.laidByTextAt_later rfl rfl tie noOwnUnsafe
theorem storePlaysUpto_row_tie : Rows.storePlaysUptoRow.laidByTextAt .later Tryd.pinned [.data] true :=
  OpenClaim.laidByTextAt_later rfl rfl tie noOwnUnsafe
theorem pastStaysUpto_row_tie : Rows.pastStaysUptoRow.laidByTextAt .later Tryd.pinned [.data] true :=
  OpenClaim.laidByTextAt_later rfl rfl tie noOwnUnsafe
theorem proofBytesUpto_row_tie : Rows.proofBytesUptoRow.laidByTextAt .later Tryd.pinned [.data] true :=
  OpenClaim.laidByTextAt_later rfl rfl tie noOwnUnsafe
theorem storeProvesUpto_row_tie : Rows.storeProvesUptoRow.laidByTextAt .later Tryd.pinned [.data] true :=
  OpenClaim.laidByTextAt_later rfl rfl tie noOwnUnsafe
theorem pastProvesUpto_row_tie : Rows.pastProvesUptoRow.laidByTextAt .later Tryd.pinned [.data] true :=
  OpenClaim.laidByTextAt_later rfl rfl tie noOwnUnsafe
end Go.Proofs.YthomoliklfmnkaaDoor
