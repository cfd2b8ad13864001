/-
  No cell of these rows narrows 'for every input' (looked for: loops, veiled, ifaces, maps, wideKeys, modest, calm, conditions, laid).
  DERIVED. THE GIVEN ROWS OF THIS SEAT. 13 by the template 'for every input the law returns true; each argument reads behind the call as it read before'; 0 by the template 'total and deterministic' (their statements: YtfchejgohegbgaaTotals.lean).
  GIVEN WITH THE SEED: the statements are not yours to turn. If you find one false, say at which input.
  Laid BY PROGRAM, IN A SANDBOX (cutbox-rows.mjs): the forced cells as the released guide's own fill.sh prints them over the translation 04a3e1e3092de4e2… (all of the seat's roots in one cut). By AI agents, Wed Nov 11 2026. No macro, syntax, notation, axiom, sorry.
-/
import Derived.Test.YtfchejgohegbgaaChecked
import GoSem.Claim
import GoSem.ClaimJoined
import GoSem.ClaimMapViews
import Derived.JoinedTies
import Derived.KernelRfl
namespace Go.Proofs.Ytfchejgohegbgaa
/- THE CELL 'sum', in the pinned program and in every row, IS THE sha256 OF THE DUMP (.gsa) THAT YtfchejgohegbgaaProg.lean LOADS. Nothing in Lean hashes anything: it is a label: what it is worth is what the hold of that sum in a sandbox is worth. -/
noncomputable def Try.pinned : Pinned := { name := "ytfchejgohegbgaa", sum := "04a3e1e3092de4e2a49767cba8cb639aadae0bccd782cf72296d77d1d8ccb4ac", checked := Try.checked }
namespace Rows
def none {H : Type} : Left H := { results := [], args := [] }

/-- 'liglaw17.GasMeter': WHATEVER THE INPUT: true; the input reads as it did. -/
def gasMeterSpec : ChangeSpec := { name := "gasMeter", fn := fun _ => fun
  | [d1, d2] => { results := [.lit (.bool true)], args := [d1, d2] }
  | _ => none }
def gasMeterRow : OpenClaim := { program := "ytfchejgohegbgaa", sum := "04a3e1e3092de4e2a49767cba8cb639aadae0bccd782cf72296d77d1d8ccb4ac", func := "lighterman/liglaw17.GasMeter", spec := "gasMeter", apart := false }
def GasMeterSaid : Prop := gasMeterRow.holds Try.pinned (OpenSpec.ofChange gasMeterSpec)

/-- ITS FALSE NEIGHBOUR: 'it returns false'. Refute it at one input. -/
def gasMeterWrong : ChangeSpec := { name := "gasMeter", fn := fun _ => fun
  | [d1, d2] => { results := [.lit (.bool false)], args := [d1, d2] }
  | _ => none }
def GasMeterWrongFalsely : Prop := gasMeterRow.holds Try.pinned (OpenSpec.ofChange gasMeterWrong)

/-- 'liglaw16.AppTells': WHATEVER THE INPUT: true; the input reads as it did. -/
def appTellsSpec : ChangeSpec := { name := "appTells", fn := fun _ => fun
  | [d1, d2] => { results := [.lit (.bool true)], args := [d1, d2] }
  | _ => none }
def appTellsRow : OpenClaim := { program := "ytfchejgohegbgaa", sum := "04a3e1e3092de4e2a49767cba8cb639aadae0bccd782cf72296d77d1d8ccb4ac", func := "lighterman/liglaw16.AppTells", spec := "appTells", apart := false }
def AppTellsSaid : Prop := appTellsRow.holds Try.pinned (OpenSpec.ofChange appTellsSpec)

/-- ITS FALSE NEIGHBOUR: 'it returns false'. Refute it at one input. -/
def appTellsWrong : ChangeSpec := { name := "appTells", fn := fun _ => fun
  | [d1, d2] => { results := [.lit (.bool false)], args := [d1, d2] }
  | _ => none }
def AppTellsWrongFalsely : Prop := appTellsRow.holds Try.pinned (OpenSpec.ofChange appTellsWrong)

/-- 'liglaw16.AppLong': WHATEVER THE INPUT: true; the input reads as it did. -/
def appLongSpec : ChangeSpec := { name := "appLong", fn := fun _ => fun
  | [d1, d2] => { results := [.lit (.bool true)], args := [d1, d2] }
  | _ => none }
def appLongRow : OpenClaim := { program := "ytfchejgohegbgaa", sum := "04a3e1e3092de4e2a49767cba8cb639aadae0bccd782cf72296d77d1d8ccb4ac", func := "lighterman/liglaw16.AppLong", spec := "appLong", apart := false }
def AppLongSaid : Prop := appLongRow.holds Try.pinned (OpenSpec.ofChange appLongSpec)

/-- ITS FALSE NEIGHBOUR: 'it returns false'. Refute it at one input. -/
def appLongWrong : ChangeSpec := { name := "appLong", fn := fun _ => fun
  | [d1, d2] => { results := [.lit (.bool false)], args := [d1, d2] }
  | _ => none }
def AppLongWrongFalsely : Prop := appLongRow.holds Try.pinned (OpenSpec.ofChange appLongWrong)

/-- 'liglaw5.PacketOver': WHATEVER THE INPUT: true; the input reads as it did. -/
def packetOverSpec : ChangeSpec := { name := "packetOver", fn := fun _ => fun
  | [d1, d2, d3, d4, d5] => { results := [.lit (.bool true)], args := [d1, d2, d3, d4, d5] }
  | _ => none }
def packetOverRow : OpenClaim := { program := "ytfchejgohegbgaa", sum := "04a3e1e3092de4e2a49767cba8cb639aadae0bccd782cf72296d77d1d8ccb4ac", func := "lighterman/liglaw5.PacketOver", spec := "packetOver", apart := false }
def PacketOverSaid : Prop := packetOverRow.holds Try.pinned (OpenSpec.ofChange packetOverSpec)

/-- ITS FALSE NEIGHBOUR: 'it returns false'. Refute it at one input. -/
def packetOverWrong : ChangeSpec := { name := "packetOver", fn := fun _ => fun
  | [d1, d2, d3, d4, d5] => { results := [.lit (.bool false)], args := [d1, d2, d3, d4, d5] }
  | _ => none }
def PacketOverWrongFalsely : Prop := packetOverRow.holds Try.pinned (OpenSpec.ofChange packetOverWrong)

/-- 'liglaw1.LebTells': WHATEVER THE INPUT: true; the input reads as it did. -/
def lebTellsSpec : ChangeSpec := { name := "lebTells", fn := fun _ => fun
  | [d1, d2, d3] => { results := [.lit (.bool true)], args := [d1, d2, d3] }
  | _ => none }
def lebTellsRow : OpenClaim := { program := "ytfchejgohegbgaa", sum := "04a3e1e3092de4e2a49767cba8cb639aadae0bccd782cf72296d77d1d8ccb4ac", func := "lighterman/liglaw1.LebTells", spec := "lebTells", apart := false }
def LebTellsSaid : Prop := lebTellsRow.holds Try.pinned (OpenSpec.ofChange lebTellsSpec)

/-- ITS FALSE NEIGHBOUR: 'it returns false'. Refute it at one input. -/
def lebTellsWrong : ChangeSpec := { name := "lebTells", fn := fun _ => fun
  | [d1, d2, d3] => { results := [.lit (.bool false)], args := [d1, d2, d3] }
  | _ => none }
def LebTellsWrongFalsely : Prop := lebTellsRow.holds Try.pinned (OpenSpec.ofChange lebTellsWrong)

/-- 'liglaw1.LebBack': WHATEVER THE INPUT: true; the input reads as it did. -/
def lebBackSpec : ChangeSpec := { name := "lebBack", fn := fun _ => fun
  | [d1, d2, d3] => { results := [.lit (.bool true)], args := [d1, d2, d3] }
  | _ => none }
def lebBackRow : OpenClaim := { program := "ytfchejgohegbgaa", sum := "04a3e1e3092de4e2a49767cba8cb639aadae0bccd782cf72296d77d1d8ccb4ac", func := "lighterman/liglaw1.LebBack", spec := "lebBack", apart := false }
def LebBackSaid : Prop := lebBackRow.holds Try.pinned (OpenSpec.ofChange lebBackSpec)

/-- ITS FALSE NEIGHBOUR: 'it returns false'. Refute it at one input. -/
def lebBackWrong : ChangeSpec := { name := "lebBack", fn := fun _ => fun
  | [d1, d2, d3] => { results := [.lit (.bool false)], args := [d1, d2, d3] }
  | _ => none }
def LebBackWrongFalsely : Prop := lebBackRow.holds Try.pinned (OpenSpec.ofChange lebBackWrong)

/-- 'liglaw1.LebOne': WHATEVER THE INPUT: true; the input reads as it did. -/
def lebOneSpec : ChangeSpec := { name := "lebOne", fn := fun _ => fun
  | [d1, d2] => { results := [.lit (.bool true)], args := [d1, d2] }
  | _ => none }
def lebOneRow : OpenClaim := { program := "ytfchejgohegbgaa", sum := "04a3e1e3092de4e2a49767cba8cb639aadae0bccd782cf72296d77d1d8ccb4ac", func := "lighterman/liglaw1.LebOne", spec := "lebOne", apart := false }
def LebOneSaid : Prop := lebOneRow.holds Try.pinned (OpenSpec.ofChange lebOneSpec)

/-- ITS FALSE NEIGHBOUR: 'it returns false'. Refute it at one input. -/
def lebOneWrong : ChangeSpec := { name := "lebOne", fn := fun _ => fun
  | [d1, d2] => { results := [.lit (.bool false)], args := [d1, d2] }
  | _ => none }
def LebOneWrongFalsely : Prop := lebOneRow.holds Try.pinned (OpenSpec.ofChange lebOneWrong)

/-- 'liglaw1.LebEight': WHATEVER THE INPUT: true; the input reads as it did. -/
def lebEightSpec : ChangeSpec := { name := "lebEight", fn := fun _ => fun
  | [d1, d2] => { results := [.lit (.bool true)], args := [d1, d2] }
  | _ => none }
def lebEightRow : OpenClaim := { program := "ytfchejgohegbgaa", sum := "04a3e1e3092de4e2a49767cba8cb639aadae0bccd782cf72296d77d1d8ccb4ac", func := "lighterman/liglaw1.LebEight", spec := "lebEight", apart := false }
def LebEightSaid : Prop := lebEightRow.holds Try.pinned (OpenSpec.ofChange lebEightSpec)

/-- ITS FALSE NEIGHBOUR: 'it returns false'. Refute it at one input. -/
def lebEightWrong : ChangeSpec := { name := "lebEight", fn := fun _ => fun
  | [d1, d2] => { results := [.lit (.bool false)], args := [d1, d2] }
  | _ => none }
def LebEightWrongFalsely : Prop := lebEightRow.holds Try.pinned (OpenSpec.ofChange lebEightWrong)

/-- 'liglaw1.LebRises': WHATEVER THE INPUT: true; the input reads as it did. -/
def lebRisesSpec : ChangeSpec := { name := "lebRises", fn := fun _ => fun
  | [d1, d2] => { results := [.lit (.bool true)], args := [d1, d2] }
  | _ => none }
def lebRisesRow : OpenClaim := { program := "ytfchejgohegbgaa", sum := "04a3e1e3092de4e2a49767cba8cb639aadae0bccd782cf72296d77d1d8ccb4ac", func := "lighterman/liglaw1.LebRises", spec := "lebRises", apart := false }
def LebRisesSaid : Prop := lebRisesRow.holds Try.pinned (OpenSpec.ofChange lebRisesSpec)

/-- ITS FALSE NEIGHBOUR: 'it returns false'. Refute it at one input. -/
def lebRisesWrong : ChangeSpec := { name := "lebRises", fn := fun _ => fun
  | [d1, d2] => { results := [.lit (.bool false)], args := [d1, d2] }
  | _ => none }
def LebRisesWrongFalsely : Prop := lebRisesRow.holds Try.pinned (OpenSpec.ofChange lebRisesWrong)

/-- 'liglaw4.WireWrites': WHATEVER THE INPUT: true; the input reads as it did. -/
def wireWritesSpec : ChangeSpec := { name := "wireWrites", fn := fun _ => fun
  | [d] => { results := [.lit (.bool true)], args := [d] }
  | _ => none }
def wireWritesRow : OpenClaim := { program := "ytfchejgohegbgaa", sum := "04a3e1e3092de4e2a49767cba8cb639aadae0bccd782cf72296d77d1d8ccb4ac", func := "lighterman/liglaw4.WireWrites", spec := "wireWrites", apart := false }
def WireWritesSaid : Prop := wireWritesRow.holds Try.pinned (OpenSpec.ofChange wireWritesSpec)

/-- ITS FALSE NEIGHBOUR: 'it returns false'. Refute it at one input. -/
def wireWritesWrong : ChangeSpec := { name := "wireWrites", fn := fun _ => fun
  | [d] => { results := [.lit (.bool false)], args := [d] }
  | _ => none }
def WireWritesWrongFalsely : Prop := wireWritesRow.holds Try.pinned (OpenSpec.ofChange wireWritesWrong)

/-- 'liglaw4.WireBack': WHATEVER THE INPUT: true; the input reads as it did. -/
def wireBackSpec : ChangeSpec := { name := "wireBack", fn := fun _ => fun
  | [d1, d2] => { results := [.lit (.bool true)], args := [d1, d2] }
  | _ => none }
def wireBackRow : OpenClaim := { program := "ytfchejgohegbgaa", sum := "04a3e1e3092de4e2a49767cba8cb639aadae0bccd782cf72296d77d1d8ccb4ac", func := "lighterman/liglaw4.WireBack", spec := "wireBack", apart := false }
def WireBackSaid : Prop := wireBackRow.holds Try.pinned (OpenSpec.ofChange wireBackSpec)

/-- ITS FALSE NEIGHBOUR: 'it returns false'. Refute it at one input. -/
def wireBackWrong : ChangeSpec := { name := "wireBack", fn := fun _ => fun
  | [d1, d2] => { results := [.lit (.bool false)], args := [d1, d2] }
  | _ => none }
def WireBackWrongFalsely : Prop := wireBackRow.holds Try.pinned (OpenSpec.ofChange wireBackWrong)

/-- 'liglaw4.WireReads': WHATEVER THE INPUT: true; the input reads as it did. -/
def wireReadsSpec : ChangeSpec := { name := "wireReads", fn := fun _ => fun
  | [d1, d2] => { results := [.lit (.bool true)], args := [d1, d2] }
  | _ => none }
def wireReadsRow : OpenClaim := { program := "ytfchejgohegbgaa", sum := "04a3e1e3092de4e2a49767cba8cb639aadae0bccd782cf72296d77d1d8ccb4ac", func := "lighterman/liglaw4.WireReads", spec := "wireReads", apart := false }
def WireReadsSaid : Prop := wireReadsRow.holds Try.pinned (OpenSpec.ofChange wireReadsSpec)

/-- ITS FALSE NEIGHBOUR: 'it returns false'. Refute it at one input. -/
def wireReadsWrong : ChangeSpec := { name := "wireReads", fn := fun _ => fun
  | [d1, d2] => { results := [.lit (.bool false)], args := [d1, d2] }
  | _ => none }
def WireReadsWrongFalsely : Prop := wireReadsRow.holds Try.pinned (OpenSpec.ofChange wireReadsWrong)

/-- 'liglaw4.WireStops': WHATEVER THE INPUT: true; the input reads as it did. -/
def wireStopsSpec : ChangeSpec := { name := "wireStops", fn := fun _ => fun
  | [d1, d2, d3, d4] => { results := [.lit (.bool true)], args := [d1, d2, d3, d4] }
  | _ => none }
def wireStopsRow : OpenClaim := { program := "ytfchejgohegbgaa", sum := "04a3e1e3092de4e2a49767cba8cb639aadae0bccd782cf72296d77d1d8ccb4ac", func := "lighterman/liglaw4.WireStops", spec := "wireStops", apart := false }
def WireStopsSaid : Prop := wireStopsRow.holds Try.pinned (OpenSpec.ofChange wireStopsSpec)

/-- ITS FALSE NEIGHBOUR: 'it returns false'. Refute it at one input. -/
def wireStopsWrong : ChangeSpec := { name := "wireStops", fn := fun _ => fun
  | [d1, d2, d3, d4] => { results := [.lit (.bool false)], args := [d1, d2, d3, d4] }
  | _ => none }
def WireStopsWrongFalsely : Prop := wireStopsRow.holds Try.pinned (OpenSpec.ofChange wireStopsWrong)

/- THE SECOND FORM. 'bulk': how many values and letters a reading holds, each counted each time it is reached (what is shared counts as often as it is met; a slice's spare places count too). A statement '..UptoSaid' is the law's where the arguments, and the package variables that the reading takes, are together of bulk at most 1048576: NARROWER than '..Said'. Prove '..Said' where nothing that the law and all that it calls make is longer than what came in: it says more and counts as full. Else prove '..UptoSaid'. A law counts once. -/
mutual
def uptoBulk {H : Type} : DataW H → Nat
  | .lit (.string bytes) => bytes.length + 1
  | .lit _ => 1
  | .nil => 1
  | .ptr d => uptoBulk d + 1
  | .slice elems spare => uptoBulkAll elems + uptoBulkAll spare + 1
  | .agg parts => uptoBulkAll parts + 1
  | .iface _ d => uptoBulk d + 1
  | .map entries => uptoBulkEntries entries + 1
  | .held _ => 1
def uptoBulkAll {H : Type} : List (DataW H) → Nat
  | [] => 0
  | d :: r => uptoBulk d + uptoBulkAll r
def uptoBulkEntries {H : Type} : List (Lit × DataW H) → Nat
  | [] => 0
  | x :: r => uptoBulkEntry x + uptoBulkEntries r
def uptoBulkEntry {H : Type} : Lit × DataW H → Nat
  | (.string bytes, d) => bytes.length + uptoBulk d + 1
  | (_, d) => uptoBulk d + 1
 end
def uptoSmall : (H : Type) → List (DataW H) → Bool := fun _ ds => decide (uptoBulkAll ds ≤ 1048576)
def OpenSpec.upto (s : _root_.Go.ChangeSpec) : _root_.Go.OpenSpec := { _root_.Go.OpenSpec.ofChange s with cond := some uptoSmall }

/-- 'liglaw17.GasMeter', WHERE WHAT IT READS IS OF BULK AT MOST 1048576: true; the input reads as it did. -/
def gasMeterUptoRow : OpenClaim := { program := "ytfchejgohegbgaa", sum := "04a3e1e3092de4e2a49767cba8cb639aadae0bccd782cf72296d77d1d8ccb4ac", func := "lighterman/liglaw17.GasMeter", spec := "gasMeter", apart := false, narrowed := true }
def GasMeterUptoSaid : Prop := gasMeterUptoRow.holds Try.pinned (OpenSpec.upto gasMeterSpec)

/-- 'liglaw16.AppTells', WHERE WHAT IT READS IS OF BULK AT MOST 1048576: true; the input reads as it did. -/
def appTellsUptoRow : OpenClaim := { program := "ytfchejgohegbgaa", sum := "04a3e1e3092de4e2a49767cba8cb639aadae0bccd782cf72296d77d1d8ccb4ac", func := "lighterman/liglaw16.AppTells", spec := "appTells", apart := false, narrowed := true }
def AppTellsUptoSaid : Prop := appTellsUptoRow.holds Try.pinned (OpenSpec.upto appTellsSpec)

/-- 'liglaw16.AppLong', WHERE WHAT IT READS IS OF BULK AT MOST 1048576: true; the input reads as it did. -/
def appLongUptoRow : OpenClaim := { program := "ytfchejgohegbgaa", sum := "04a3e1e3092de4e2a49767cba8cb639aadae0bccd782cf72296d77d1d8ccb4ac", func := "lighterman/liglaw16.AppLong", spec := "appLong", apart := false, narrowed := true }
def AppLongUptoSaid : Prop := appLongUptoRow.holds Try.pinned (OpenSpec.upto appLongSpec)

/-- 'liglaw5.PacketOver', WHERE WHAT IT READS IS OF BULK AT MOST 1048576: true; the input reads as it did. -/
def packetOverUptoRow : OpenClaim := { program := "ytfchejgohegbgaa", sum := "04a3e1e3092de4e2a49767cba8cb639aadae0bccd782cf72296d77d1d8ccb4ac", func := "lighterman/liglaw5.PacketOver", spec := "packetOver", apart := false, narrowed := true }
def PacketOverUptoSaid : Prop := packetOverUptoRow.holds Try.pinned (OpenSpec.upto packetOverSpec)

/-- 'liglaw1.LebTells', WHERE WHAT IT READS IS OF BULK AT MOST 1048576: true; the input reads as it did. -/
def lebTellsUptoRow : OpenClaim := { program := "ytfchejgohegbgaa", sum := "04a3e1e3092de4e2a49767cba8cb639aadae0bccd782cf72296d77d1d8ccb4ac", func := "lighterman/liglaw1.LebTells", spec := "lebTells", apart := false, narrowed := true }
def LebTellsUptoSaid : Prop := lebTellsUptoRow.holds Try.pinned (OpenSpec.upto lebTellsSpec)

/-- 'liglaw1.LebBack', WHERE WHAT IT READS IS OF BULK AT MOST 1048576: true; the input reads as it did. -/
def lebBackUptoRow : OpenClaim := { program := "ytfchejgohegbgaa", sum := "04a3e1e3092de4e2a49767cba8cb639aadae0bccd782cf72296d77d1d8ccb4ac", func := "lighterman/liglaw1.LebBack", spec := "lebBack", apart := false, narrowed := true }
def LebBackUptoSaid : Prop := lebBackUptoRow.holds Try.pinned (OpenSpec.upto lebBackSpec)

/-- 'liglaw1.LebOne', WHERE WHAT IT READS IS OF BULK AT MOST 1048576: true; the input reads as it did. -/
def lebOneUptoRow : OpenClaim := { program := "ytfchejgohegbgaa", sum := "04a3e1e3092de4e2a49767cba8cb639aadae0bccd782cf72296d77d1d8ccb4ac", func := "lighterman/liglaw1.LebOne", spec := "lebOne", apart := false, narrowed := true }
def LebOneUptoSaid : Prop := lebOneUptoRow.holds Try.pinned (OpenSpec.upto lebOneSpec)

/-- 'liglaw1.LebEight', WHERE WHAT IT READS IS OF BULK AT MOST 1048576: true; the input reads as it did. -/
def lebEightUptoRow : OpenClaim := { program := "ytfchejgohegbgaa", sum := "04a3e1e3092de4e2a49767cba8cb639aadae0bccd782cf72296d77d1d8ccb4ac", func := "lighterman/liglaw1.LebEight", spec := "lebEight", apart := false, narrowed := true }
def LebEightUptoSaid : Prop := lebEightUptoRow.holds Try.pinned (OpenSpec.upto lebEightSpec)

/-- 'liglaw1.LebRises', WHERE WHAT IT READS IS OF BULK AT MOST 1048576: true; the input reads as it did. -/
def lebRisesUptoRow : OpenClaim := { program := "ytfchejgohegbgaa", sum := "04a3e1e3092de4e2a49767cba8cb639aadae0bccd782cf72296d77d1d8ccb4ac", func := "lighterman/liglaw1.LebRises", spec := "lebRises", apart := false, narrowed := true }
def LebRisesUptoSaid : Prop := lebRisesUptoRow.holds Try.pinned (OpenSpec.upto lebRisesSpec)

/-- 'liglaw4.WireWrites', WHERE WHAT IT READS IS OF BULK AT MOST 1048576: true; the input reads as it did. -/
def wireWritesUptoRow : OpenClaim := { program := "ytfchejgohegbgaa", sum := "04a3e1e3092de4e2a49767cba8cb639aadae0bccd782cf72296d77d1d8ccb4ac", func := "lighterman/liglaw4.WireWrites", spec := "wireWrites", apart := false, narrowed := true }
def WireWritesUptoSaid : Prop := wireWritesUptoRow.holds Try.pinned (OpenSpec.upto wireWritesSpec)

/-- 'liglaw4.WireBack', WHERE WHAT IT READS IS OF BULK AT MOST 1048576: true; the input reads as it did. -/
def wireBackUptoRow : OpenClaim := { program := "ytfchejgohegbgaa", sum := "04a3e1e3092de4e2a49767cba8cb639aadae0bccd782cf72296d77d1d8ccb4ac", func := "lighterman/liglaw4.WireBack", spec := "wireBack", apart := false, narrowed := true }
def WireBackUptoSaid : Prop := wireBackUptoRow.holds Try.pinned (OpenSpec.upto wireBackSpec)

/-- 'liglaw4.WireReads', WHERE WHAT IT READS IS OF BULK AT MOST 1048576: true; the input reads as it did. -/
def wireReadsUptoRow : OpenClaim := { program := "ytfchejgohegbgaa", sum := "04a3e1e3092de4e2a49767cba8cb639aadae0bccd782cf72296d77d1d8ccb4ac", func := "lighterman/liglaw4.WireReads", spec := "wireReads", apart := false, narrowed := true }
def WireReadsUptoSaid : Prop := wireReadsUptoRow.holds Try.pinned (OpenSpec.upto wireReadsSpec)

/-- 'liglaw4.WireStops', WHERE WHAT IT READS IS OF BULK AT MOST 1048576: true; the input reads as it did. -/
def wireStopsUptoRow : OpenClaim := { program := "ytfchejgohegbgaa", sum := "04a3e1e3092de4e2a49767cba8cb639aadae0bccd782cf72296d77d1d8ccb4ac", func := "lighterman/liglaw4.WireStops", spec := "wireStops", apart := false, narrowed := true }
def WireStopsUptoSaid : Prop := wireStopsUptoRow.holds Try.pinned (OpenSpec.upto wireStopsSpec)

end Rows
end Go.Proofs.Ytfchejgohegbgaa
