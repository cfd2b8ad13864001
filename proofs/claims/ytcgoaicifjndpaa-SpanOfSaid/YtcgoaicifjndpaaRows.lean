/-
  No cell of these rows narrows 'for every input' (looked for: loops, veiled, ifaces, maps, wideKeys, modest, calm, conditions, laid).
  DERIVED. THE GIVEN ROWS OF THIS SEAT. 14 by the template 'for every input the law returns true; each argument reads behind the call as it read before'; 0 by the template 'total and deterministic' (their statements: YtcgoaicifjndpaaTotals.lean).
  GIVEN WITH THE SEED: the statements are not yours to turn. If you find one false, say at which input.
  Laid BY PROGRAM, IN A SANDBOX (cutbox-rows.mjs): the forced cells as the released guide's own fill.sh prints them over the translation d787edd0042a2674… (all of the seat's roots in one cut). By AI agents, Wed Nov 11 2026. No macro, syntax, notation, axiom, sorry.
-/
import Derived.Test.YtcgoaicifjndpaaChecked
import GoSem.Claim
import GoSem.ClaimJoined
import GoSem.ClaimMapViews
import Derived.JoinedTies
import Derived.KernelRfl
namespace Go.Proofs.Ytcgoaicifjndpaa
/- THE CELL 'sum', in the pinned program and in every row, IS THE sha256 OF THE DUMP (.gsa) THAT YtcgoaicifjndpaaProg.lean LOADS. Nothing in Lean hashes anything: it is a label: what it is worth is what the hold of that sum in a sandbox is worth. -/
noncomputable def Try.pinned : Pinned := { name := "ytcgoaicifjndpaa", sum := "d787edd0042a26748784f0cf2b8eb52ff24f7405c2ca69b0ec21d51e333d884b", checked := Try.checked }
namespace Rows
def none {H : Type} : Left H := { results := [], args := [] }

/-- 'liglaw23.SpanOf': WHATEVER THE INPUT: true; the input reads as it did. -/
def spanOfSpec : ChangeSpec := { name := "spanOf", fn := fun _ => fun
  | [d1, d2] => { results := [.lit (.bool true)], args := [d1, d2] }
  | _ => none }
def spanOfRow : OpenClaim := { program := "ytcgoaicifjndpaa", sum := "d787edd0042a26748784f0cf2b8eb52ff24f7405c2ca69b0ec21d51e333d884b", func := "lighterman/liglaw23.SpanOf", spec := "spanOf", unfollowed := true, recurses := true, plainKeys := false, apart := false }
def SpanOfSaid : Prop := spanOfRow.holds Try.pinned (OpenSpec.ofChange spanOfSpec)

/-- ITS FALSE NEIGHBOUR: 'it returns false'. Refute it at one input. -/
def spanOfWrong : ChangeSpec := { name := "spanOf", fn := fun _ => fun
  | [d1, d2] => { results := [.lit (.bool false)], args := [d1, d2] }
  | _ => none }
def SpanOfWrongFalsely : Prop := spanOfRow.holds Try.pinned (OpenSpec.ofChange spanOfWrong)

/-- 'liglaw23.SpanTells': WHATEVER THE INPUT: true; the input reads as it did. -/
def spanTellsSpec : ChangeSpec := { name := "spanTells", fn := fun _ => fun
  | [d1, d2, d3, d4, d5] => { results := [.lit (.bool true)], args := [d1, d2, d3, d4, d5] }
  | _ => none }
def spanTellsRow : OpenClaim := { program := "ytcgoaicifjndpaa", sum := "d787edd0042a26748784f0cf2b8eb52ff24f7405c2ca69b0ec21d51e333d884b", func := "lighterman/liglaw23.SpanTells", spec := "spanTells", unfollowed := true, recurses := true, plainKeys := false, apart := false }
def SpanTellsSaid : Prop := spanTellsRow.holds Try.pinned (OpenSpec.ofChange spanTellsSpec)

/-- ITS FALSE NEIGHBOUR: 'it returns false'. Refute it at one input. -/
def spanTellsWrong : ChangeSpec := { name := "spanTells", fn := fun _ => fun
  | [d1, d2, d3, d4, d5] => { results := [.lit (.bool false)], args := [d1, d2, d3, d4, d5] }
  | _ => none }
def SpanTellsWrongFalsely : Prop := spanTellsRow.holds Try.pinned (OpenSpec.ofChange spanTellsWrong)

/-- 'liglaw12.StoreUnder': WHATEVER THE INPUT: true; the input reads as it did. -/
def storeUnderSpec : ChangeSpec := { name := "storeUnder", fn := fun _ => fun
  | [d1, d2] => { results := [.lit (.bool true)], args := [d1, d2] }
  | _ => none }
def storeUnderRow : OpenClaim := { program := "ytcgoaicifjndpaa", sum := "d787edd0042a26748784f0cf2b8eb52ff24f7405c2ca69b0ec21d51e333d884b", func := "lighterman/liglaw12.StoreUnder", spec := "storeUnder", inPlace := ["internal/bytealg.abigen_runtime_cmpstring", "slices.overlaps[lighterman/proof.Pair]"], unfollowed := true, recurses := true, plainKeys := false, apart := false }
def StoreUnderSaid : Prop := storeUnderRow.holds Try.pinned (OpenSpec.ofChange storeUnderSpec)

/-- ITS FALSE NEIGHBOUR: 'it returns false'. Refute it at one input. -/
def storeUnderWrong : ChangeSpec := { name := "storeUnder", fn := fun _ => fun
  | [d1, d2] => { results := [.lit (.bool false)], args := [d1, d2] }
  | _ => none }
def StoreUnderWrongFalsely : Prop := storeUnderRow.holds Try.pinned (OpenSpec.ofChange storeUnderWrong)

/-- 'liglaw17.GasTells': WHATEVER THE INPUT: true; the input reads as it did. -/
def gasTellsSpec : ChangeSpec := { name := "gasTells", fn := fun _ => fun
  | [d] => { results := [.lit (.bool true)], args := [d] }
  | _ => none }
def gasTellsRow : OpenClaim := { program := "ytcgoaicifjndpaa", sum := "d787edd0042a26748784f0cf2b8eb52ff24f7405c2ca69b0ec21d51e333d884b", func := "lighterman/liglaw17.GasTells", spec := "gasTells", unfollowed := true, recurses := true, plainKeys := false, apart := false }
def GasTellsSaid : Prop := gasTellsRow.holds Try.pinned (OpenSpec.ofChange gasTellsSpec)

/-- ITS FALSE NEIGHBOUR: 'it returns false'. Refute it at one input. -/
def gasTellsWrong : ChangeSpec := { name := "gasTells", fn := fun _ => fun
  | [d] => { results := [.lit (.bool false)], args := [d] }
  | _ => none }
def GasTellsWrongFalsely : Prop := gasTellsRow.holds Try.pinned (OpenSpec.ofChange gasTellsWrong)

/-- 'liglaw17.GasMore': WHATEVER THE INPUT: true; the input reads as it did. -/
def gasMoreSpec : ChangeSpec := { name := "gasMore", fn := fun _ => fun
  | [d] => { results := [.lit (.bool true)], args := [d] }
  | _ => none }
def gasMoreRow : OpenClaim := { program := "ytcgoaicifjndpaa", sum := "d787edd0042a26748784f0cf2b8eb52ff24f7405c2ca69b0ec21d51e333d884b", func := "lighterman/liglaw17.GasMore", spec := "gasMore", unfollowed := true, recurses := true, plainKeys := false, apart := false }
def GasMoreSaid : Prop := gasMoreRow.holds Try.pinned (OpenSpec.ofChange gasMoreSpec)

/-- ITS FALSE NEIGHBOUR: 'it returns false'. Refute it at one input. -/
def gasMoreWrong : ChangeSpec := { name := "gasMore", fn := fun _ => fun
  | [d] => { results := [.lit (.bool false)], args := [d] }
  | _ => none }
def GasMoreWrongFalsely : Prop := gasMoreRow.holds Try.pinned (OpenSpec.ofChange gasMoreWrong)

/-- 'liglaw28.BatchCuts': WHATEVER THE INPUT: true; the input reads as it did. -/
def batchCutsSpec : ChangeSpec := { name := "batchCuts", fn := fun _ => fun
  | [d1, d2, d3, d4] => { results := [.lit (.bool true)], args := [d1, d2, d3, d4] }
  | _ => none }
def batchCutsRow : OpenClaim := { program := "ytcgoaicifjndpaa", sum := "d787edd0042a26748784f0cf2b8eb52ff24f7405c2ca69b0ec21d51e333d884b", func := "lighterman/liglaw28.BatchCuts", spec := "batchCuts", unfollowed := true, recurses := true, plainKeys := false, apart := false }
def BatchCutsSaid : Prop := batchCutsRow.holds Try.pinned (OpenSpec.ofChange batchCutsSpec)

/-- ITS FALSE NEIGHBOUR: 'it returns false'. Refute it at one input. -/
def batchCutsWrong : ChangeSpec := { name := "batchCuts", fn := fun _ => fun
  | [d1, d2, d3, d4] => { results := [.lit (.bool false)], args := [d1, d2, d3, d4] }
  | _ => none }
def BatchCutsWrongFalsely : Prop := batchCutsRow.holds Try.pinned (OpenSpec.ofChange batchCutsWrong)

/-- 'liglaw28.BatchWhole': WHATEVER THE INPUT: true; the input reads as it did. -/
def batchWholeSpec : ChangeSpec := { name := "batchWhole", fn := fun _ => fun
  | [d1, d2, d3, d4] => { results := [.lit (.bool true)], args := [d1, d2, d3, d4] }
  | _ => none }
def batchWholeRow : OpenClaim := { program := "ytcgoaicifjndpaa", sum := "d787edd0042a26748784f0cf2b8eb52ff24f7405c2ca69b0ec21d51e333d884b", func := "lighterman/liglaw28.BatchWhole", spec := "batchWhole", unfollowed := true, recurses := true, plainKeys := false, apart := false }
def BatchWholeSaid : Prop := batchWholeRow.holds Try.pinned (OpenSpec.ofChange batchWholeSpec)

/-- ITS FALSE NEIGHBOUR: 'it returns false'. Refute it at one input. -/
def batchWholeWrong : ChangeSpec := { name := "batchWhole", fn := fun _ => fun
  | [d1, d2, d3, d4] => { results := [.lit (.bool false)], args := [d1, d2, d3, d4] }
  | _ => none }
def BatchWholeWrongFalsely : Prop := batchWholeRow.holds Try.pinned (OpenSpec.ofChange batchWholeWrong)

/-- 'liglaw28.BatchMore': WHATEVER THE INPUT: true; the input reads as it did. -/
def batchMoreSpec : ChangeSpec := { name := "batchMore", fn := fun _ => fun
  | [d1, d2, d3, d4, d5] => { results := [.lit (.bool true)], args := [d1, d2, d3, d4, d5] }
  | _ => none }
def batchMoreRow : OpenClaim := { program := "ytcgoaicifjndpaa", sum := "d787edd0042a26748784f0cf2b8eb52ff24f7405c2ca69b0ec21d51e333d884b", func := "lighterman/liglaw28.BatchMore", spec := "batchMore", unfollowed := true, recurses := true, plainKeys := false, apart := false }
def BatchMoreSaid : Prop := batchMoreRow.holds Try.pinned (OpenSpec.ofChange batchMoreSpec)

/-- ITS FALSE NEIGHBOUR: 'it returns false'. Refute it at one input. -/
def batchMoreWrong : ChangeSpec := { name := "batchMore", fn := fun _ => fun
  | [d1, d2, d3, d4, d5] => { results := [.lit (.bool false)], args := [d1, d2, d3, d4, d5] }
  | _ => none }
def BatchMoreWrongFalsely : Prop := batchMoreRow.holds Try.pinned (OpenSpec.ofChange batchMoreWrong)

/-- 'liglaw28.BatchGroups': WHATEVER THE INPUT: true; the input reads as it did. -/
def batchGroupsSpec : ChangeSpec := { name := "batchGroups", fn := fun _ => fun
  | [d1, d2] => { results := [.lit (.bool true)], args := [d1, d2] }
  | _ => none }
def batchGroupsRow : OpenClaim := { program := "ytcgoaicifjndpaa", sum := "d787edd0042a26748784f0cf2b8eb52ff24f7405c2ca69b0ec21d51e333d884b", func := "lighterman/liglaw28.BatchGroups", spec := "batchGroups", unfollowed := true, recurses := true, plainKeys := false, apart := false }
def BatchGroupsSaid : Prop := batchGroupsRow.holds Try.pinned (OpenSpec.ofChange batchGroupsSpec)

/-- ITS FALSE NEIGHBOUR: 'it returns false'. Refute it at one input. -/
def batchGroupsWrong : ChangeSpec := { name := "batchGroups", fn := fun _ => fun
  | [d1, d2] => { results := [.lit (.bool false)], args := [d1, d2] }
  | _ => none }
def BatchGroupsWrongFalsely : Prop := batchGroupsRow.holds Try.pinned (OpenSpec.ofChange batchGroupsWrong)

/-- 'liglaw8.MsgBack': WHATEVER THE INPUT: true; the input reads as it did. -/
def msgBackSpec : ChangeSpec := { name := "msgBack", fn := fun _ => fun
  | [d1, d2] => { results := [.lit (.bool true)], args := [d1, d2] }
  | _ => none }
def msgBackRow : OpenClaim := { program := "ytcgoaicifjndpaa", sum := "d787edd0042a26748784f0cf2b8eb52ff24f7405c2ca69b0ec21d51e333d884b", func := "lighterman/liglaw8.MsgBack", spec := "msgBack", unfollowed := true, recurses := true, plainKeys := false, apart := false }
def MsgBackSaid : Prop := msgBackRow.holds Try.pinned (OpenSpec.ofChange msgBackSpec)

/-- ITS FALSE NEIGHBOUR: 'it returns false'. Refute it at one input. -/
def msgBackWrong : ChangeSpec := { name := "msgBack", fn := fun _ => fun
  | [d1, d2] => { results := [.lit (.bool false)], args := [d1, d2] }
  | _ => none }
def MsgBackWrongFalsely : Prop := msgBackRow.holds Try.pinned (OpenSpec.ofChange msgBackWrong)

/-- 'liglaw8.MsgPlain': WHATEVER THE INPUT: true; the input reads as it did. -/
def msgPlainSpec : ChangeSpec := { name := "msgPlain", fn := fun _ => fun
  | [d1, d2, d3] => { results := [.lit (.bool true)], args := [d1, d2, d3] }
  | _ => none }
def msgPlainRow : OpenClaim := { program := "ytcgoaicifjndpaa", sum := "d787edd0042a26748784f0cf2b8eb52ff24f7405c2ca69b0ec21d51e333d884b", func := "lighterman/liglaw8.MsgPlain", spec := "msgPlain", unfollowed := true, recurses := true, plainKeys := false, apart := false }
def MsgPlainSaid : Prop := msgPlainRow.holds Try.pinned (OpenSpec.ofChange msgPlainSpec)

/-- ITS FALSE NEIGHBOUR: 'it returns false'. Refute it at one input. -/
def msgPlainWrong : ChangeSpec := { name := "msgPlain", fn := fun _ => fun
  | [d1, d2, d3] => { results := [.lit (.bool false)], args := [d1, d2, d3] }
  | _ => none }
def MsgPlainWrongFalsely : Prop := msgPlainRow.holds Try.pinned (OpenSpec.ofChange msgPlainWrong)

/-- 'liglaw8.MsgTells': WHATEVER THE INPUT: true; the input reads as it did. -/
def msgTellsSpec : ChangeSpec := { name := "msgTells", fn := fun _ => fun
  | [d1, d2, d3] => { results := [.lit (.bool true)], args := [d1, d2, d3] }
  | _ => none }
def msgTellsRow : OpenClaim := { program := "ytcgoaicifjndpaa", sum := "d787edd0042a26748784f0cf2b8eb52ff24f7405c2ca69b0ec21d51e333d884b", func := "lighterman/liglaw8.MsgTells", spec := "msgTells", unfollowed := true, recurses := true, plainKeys := false, apart := false }
def MsgTellsSaid : Prop := msgTellsRow.holds Try.pinned (OpenSpec.ofChange msgTellsSpec)

/-- ITS FALSE NEIGHBOUR: 'it returns false'. Refute it at one input. -/
def msgTellsWrong : ChangeSpec := { name := "msgTells", fn := fun _ => fun
  | [d1, d2, d3] => { results := [.lit (.bool false)], args := [d1, d2, d3] }
  | _ => none }
def MsgTellsWrongFalsely : Prop := msgTellsRow.holds Try.pinned (OpenSpec.ofChange msgTellsWrong)

/-- 'liglaw8.TxTells': WHATEVER THE INPUT: true; the input reads as it did. -/
def txTellsSpec : ChangeSpec := { name := "txTells", fn := fun _ => fun
  | [d1, d2] => { results := [.lit (.bool true)], args := [d1, d2] }
  | _ => none }
def txTellsRow : OpenClaim := { program := "ytcgoaicifjndpaa", sum := "d787edd0042a26748784f0cf2b8eb52ff24f7405c2ca69b0ec21d51e333d884b", func := "lighterman/liglaw8.TxTells", spec := "txTells", unfollowed := true, recurses := true, plainKeys := false, apart := false }
def TxTellsSaid : Prop := txTellsRow.holds Try.pinned (OpenSpec.ofChange txTellsSpec)

/-- ITS FALSE NEIGHBOUR: 'it returns false'. Refute it at one input. -/
def txTellsWrong : ChangeSpec := { name := "txTells", fn := fun _ => fun
  | [d1, d2] => { results := [.lit (.bool false)], args := [d1, d2] }
  | _ => none }
def TxTellsWrongFalsely : Prop := txTellsRow.holds Try.pinned (OpenSpec.ofChange txTellsWrong)

/-- 'liglaw8.TxBack': WHATEVER THE INPUT: true; the input reads as it did. -/
def txBackSpec : ChangeSpec := { name := "txBack", fn := fun _ => fun
  | [d1, d2] => { results := [.lit (.bool true)], args := [d1, d2] }
  | _ => none }
def txBackRow : OpenClaim := { program := "ytcgoaicifjndpaa", sum := "d787edd0042a26748784f0cf2b8eb52ff24f7405c2ca69b0ec21d51e333d884b", func := "lighterman/liglaw8.TxBack", spec := "txBack", unfollowed := true, recurses := true, plainKeys := false, apart := false }
def TxBackSaid : Prop := txBackRow.holds Try.pinned (OpenSpec.ofChange txBackSpec)

/-- ITS FALSE NEIGHBOUR: 'it returns false'. Refute it at one input. -/
def txBackWrong : ChangeSpec := { name := "txBack", fn := fun _ => fun
  | [d1, d2] => { results := [.lit (.bool false)], args := [d1, d2] }
  | _ => none }
def TxBackWrongFalsely : Prop := txBackRow.holds Try.pinned (OpenSpec.ofChange txBackWrong)

/- THE SECOND FORM. 'bulk': how many values and letters a reading holds, each counted each time it is reached (what is shared counts as often as it is met; a slice's spare places count too). A statement '..UptoSaid' is the law's where the arguments, and the package variables that the reading takes, are together of bulk at most 1048576: NARROWER than '..Said'. Prove '..Said' where nothing that the law and all that it calls make is longer than what came in: it says more and counts as full. Else prove '..UptoSaid'. A law counts once. -/
mutual
def uptoBulk {H : Type} : DataW H → Nat
  | .lit (.string bytes) => bytes.length + 1
  | .lit _ => 1
  | .nil => 1
  | .ptr d => uptoBulk d + 1
  | .slice elems spare => uptoBulkAll elems + uptoBulkAll spare + 1
  | .agg parts => uptoBulkAll parts + 1
  | .iface _ d => uptoBulk d + 1
  | .map entries => uptoBulkEntries entries + 1
  | .held _ => 1
def uptoBulkAll {H : Type} : List (DataW H) → Nat
  | [] => 0
  | d :: r => uptoBulk d + uptoBulkAll r
def uptoBulkEntries {H : Type} : List (Lit × DataW H) → Nat
  | [] => 0
  | x :: r => uptoBulkEntry x + uptoBulkEntries r
def uptoBulkEntry {H : Type} : Lit × DataW H → Nat
  | (.string bytes, d) => bytes.length + uptoBulk d + 1
  | (_, d) => uptoBulk d + 1
 end
def uptoSmall : (H : Type) → List (DataW H) → Bool := fun _ ds => decide (uptoBulkAll ds ≤ 1048576)
def OpenSpec.upto (s : _root_.Go.ChangeSpec) : _root_.Go.OpenSpec := { _root_.Go.OpenSpec.ofChange s with cond := some uptoSmall }

/-- 'liglaw23.SpanOf', WHERE WHAT IT READS IS OF BULK AT MOST 1048576: true; the input reads as it did. -/
def spanOfUptoRow : OpenClaim := { program := "ytcgoaicifjndpaa", sum := "d787edd0042a26748784f0cf2b8eb52ff24f7405c2ca69b0ec21d51e333d884b", func := "lighterman/liglaw23.SpanOf", spec := "spanOf", unfollowed := true, recurses := true, plainKeys := false, apart := false, narrowed := true }
def SpanOfUptoSaid : Prop := spanOfUptoRow.holds Try.pinned (OpenSpec.upto spanOfSpec)

/-- 'liglaw23.SpanTells', WHERE WHAT IT READS IS OF BULK AT MOST 1048576: true; the input reads as it did. -/
def spanTellsUptoRow : OpenClaim := { program := "ytcgoaicifjndpaa", sum := "d787edd0042a26748784f0cf2b8eb52ff24f7405c2ca69b0ec21d51e333d884b", func := "lighterman/liglaw23.SpanTells", spec := "spanTells", unfollowed := true, recurses := true, plainKeys := false, apart := false, narrowed := true }
def SpanTellsUptoSaid : Prop := spanTellsUptoRow.holds Try.pinned (OpenSpec.upto spanTellsSpec)

/-- 'liglaw12.StoreUnder', WHERE WHAT IT READS IS OF BULK AT MOST 1048576: true; the input reads as it did. -/
def storeUnderUptoRow : OpenClaim := { program := "ytcgoaicifjndpaa", sum := "d787edd0042a26748784f0cf2b8eb52ff24f7405c2ca69b0ec21d51e333d884b", func := "lighterman/liglaw12.StoreUnder", spec := "storeUnder", inPlace := ["internal/bytealg.abigen_runtime_cmpstring", "slices.overlaps[lighterman/proof.Pair]"], unfollowed := true, recurses := true, plainKeys := false, apart := false, narrowed := true }
def StoreUnderUptoSaid : Prop := storeUnderUptoRow.holds Try.pinned (OpenSpec.upto storeUnderSpec)

/-- 'liglaw17.GasTells', WHERE WHAT IT READS IS OF BULK AT MOST 1048576: true; the input reads as it did. -/
def gasTellsUptoRow : OpenClaim := { program := "ytcgoaicifjndpaa", sum := "d787edd0042a26748784f0cf2b8eb52ff24f7405c2ca69b0ec21d51e333d884b", func := "lighterman/liglaw17.GasTells", spec := "gasTells", unfollowed := true, recurses := true, plainKeys := false, apart := false, narrowed := true }
def GasTellsUptoSaid : Prop := gasTellsUptoRow.holds Try.pinned (OpenSpec.upto gasTellsSpec)

/-- 'liglaw17.GasMore', WHERE WHAT IT READS IS OF BULK AT MOST 1048576: true; the input reads as it did. -/
def gasMoreUptoRow : OpenClaim := { program := "ytcgoaicifjndpaa", sum := "d787edd0042a26748784f0cf2b8eb52ff24f7405c2ca69b0ec21d51e333d884b", func := "lighterman/liglaw17.GasMore", spec := "gasMore", unfollowed := true, recurses := true, plainKeys := false, apart := false, narrowed := true }
def GasMoreUptoSaid : Prop := gasMoreUptoRow.holds Try.pinned (OpenSpec.upto gasMoreSpec)

/-- 'liglaw28.BatchCuts', WHERE WHAT IT READS IS OF BULK AT MOST 1048576: true; the input reads as it did. -/
def batchCutsUptoRow : OpenClaim := { program := "ytcgoaicifjndpaa", sum := "d787edd0042a26748784f0cf2b8eb52ff24f7405c2ca69b0ec21d51e333d884b", func := "lighterman/liglaw28.BatchCuts", spec := "batchCuts", unfollowed := true, recurses := true, plainKeys := false, apart := false, narrowed := true }
def BatchCutsUptoSaid : Prop := batchCutsUptoRow.holds Try.pinned (OpenSpec.upto batchCutsSpec)

/-- 'liglaw28.BatchWhole', WHERE WHAT IT READS IS OF BULK AT MOST 1048576: true; the input reads as it did. -/
def batchWholeUptoRow : OpenClaim := { program := "ytcgoaicifjndpaa", sum := "d787edd0042a26748784f0cf2b8eb52ff24f7405c2ca69b0ec21d51e333d884b", func := "lighterman/liglaw28.BatchWhole", spec := "batchWhole", unfollowed := true, recurses := true, plainKeys := false, apart := false, narrowed := true }
def BatchWholeUptoSaid : Prop := batchWholeUptoRow.holds Try.pinned (OpenSpec.upto batchWholeSpec)

/-- 'liglaw28.BatchMore', WHERE WHAT IT READS IS OF BULK AT MOST 1048576: true; the input reads as it did. -/
def batchMoreUptoRow : OpenClaim := { program := "ytcgoaicifjndpaa", sum := "d787edd0042a26748784f0cf2b8eb52ff24f7405c2ca69b0ec21d51e333d884b", func := "lighterman/liglaw28.BatchMore", spec := "batchMore", unfollowed := true, recurses := true, plainKeys := false, apart := false, narrowed := true }
def BatchMoreUptoSaid : Prop := batchMoreUptoRow.holds Try.pinned (OpenSpec.upto batchMoreSpec)

/-- 'liglaw28.BatchGroups', WHERE WHAT IT READS IS OF BULK AT MOST 1048576: true; the input reads as it did. -/
def batchGroupsUptoRow : OpenClaim := { program := "ytcgoaicifjndpaa", sum := "d787edd0042a26748784f0cf2b8eb52ff24f7405c2ca69b0ec21d51e333d884b", func := "lighterman/liglaw28.BatchGroups", spec := "batchGroups", unfollowed := true, recurses := true, plainKeys := false, apart := false, narrowed := true }
def BatchGroupsUptoSaid : Prop := batchGroupsUptoRow.holds Try.pinned (OpenSpec.upto batchGroupsSpec)

/-- 'liglaw8.MsgBack', WHERE WHAT IT READS IS OF BULK AT MOST 1048576: true; the input reads as it did. -/
def msgBackUptoRow : OpenClaim := { program := "ytcgoaicifjndpaa", sum := "d787edd0042a26748784f0cf2b8eb52ff24f7405c2ca69b0ec21d51e333d884b", func := "lighterman/liglaw8.MsgBack", spec := "msgBack", unfollowed := true, recurses := true, plainKeys := false, apart := false, narrowed := true }
def MsgBackUptoSaid : Prop := msgBackUptoRow.holds Try.pinned (OpenSpec.upto msgBackSpec)

/-- 'liglaw8.MsgPlain', WHERE WHAT IT READS IS OF BULK AT MOST 1048576: true; the input reads as it did. -/
def msgPlainUptoRow : OpenClaim := { program := "ytcgoaicifjndpaa", sum := "d787edd0042a26748784f0cf2b8eb52ff24f7405c2ca69b0ec21d51e333d884b", func := "lighterman/liglaw8.MsgPlain", spec := "msgPlain", unfollowed := true, recurses := true, plainKeys := false, apart := false, narrowed := true }
def MsgPlainUptoSaid : Prop := msgPlainUptoRow.holds Try.pinned (OpenSpec.upto msgPlainSpec)

/-- 'liglaw8.MsgTells', WHERE WHAT IT READS IS OF BULK AT MOST 1048576: true; the input reads as it did. -/
def msgTellsUptoRow : OpenClaim := { program := "ytcgoaicifjndpaa", sum := "d787edd0042a26748784f0cf2b8eb52ff24f7405c2ca69b0ec21d51e333d884b", func := "lighterman/liglaw8.MsgTells", spec := "msgTells", unfollowed := true, recurses := true, plainKeys := false, apart := false, narrowed := true }
def MsgTellsUptoSaid : Prop := msgTellsUptoRow.holds Try.pinned (OpenSpec.upto msgTellsSpec)

/-- 'liglaw8.TxTells', WHERE WHAT IT READS IS OF BULK AT MOST 1048576: true; the input reads as it did. -/
def txTellsUptoRow : OpenClaim := { program := "ytcgoaicifjndpaa", sum := "d787edd0042a26748784f0cf2b8eb52ff24f7405c2ca69b0ec21d51e333d884b", func := "lighterman/liglaw8.TxTells", spec := "txTells", unfollowed := true, recurses := true, plainKeys := false, apart := false, narrowed := true }
def TxTellsUptoSaid : Prop := txTellsUptoRow.holds Try.pinned (OpenSpec.upto txTellsSpec)

/-- 'liglaw8.TxBack', WHERE WHAT IT READS IS OF BULK AT MOST 1048576: true; the input reads as it did. -/
def txBackUptoRow : OpenClaim := { program := "ytcgoaicifjndpaa", sum := "d787edd0042a26748784f0cf2b8eb52ff24f7405c2ca69b0ec21d51e333d884b", func := "lighterman/liglaw8.TxBack", spec := "txBack", unfollowed := true, recurses := true, plainKeys := false, apart := false, narrowed := true }
def TxBackUptoSaid : Prop := txBackUptoRow.holds Try.pinned (OpenSpec.upto txBackSpec)

end Rows
end Go.Proofs.Ytcgoaicifjndpaa
