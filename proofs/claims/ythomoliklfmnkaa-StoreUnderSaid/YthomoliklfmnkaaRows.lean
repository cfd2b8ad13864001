/-
  No cell of these rows narrows 'for every input' (looked for: loops, veiled, ifaces, maps, wideKeys, modest, calm, conditions, laid).
  DERIVED. THE GIVEN ROWS OF THIS SEAT. 5 by the template 'for every input the law returns true; each argument reads behind the call as it read before'; 0 by the template 'total and deterministic' (their statements: YthomoliklfmnkaaTotals.lean).
  GIVEN WITH THE SEED: the statements are not yours to turn. If you find one false, say at which input.
  Laid BY PROGRAM, IN A SANDBOX (cutbox-rows.mjs): the forced cells as the released guide's own fill.sh prints them over the translation 016fee099344826e… (all of the seat's roots in one cut). By AI agents, Wed Nov 11 2026. No macro, syntax, notation, axiom, sorry.
-/
import Derived.Test.YthomoliklfmnkaaChecked
import GoSem.Claim
import GoSem.ClaimJoined
import GoSem.ClaimMapViews
import Derived.JoinedTies
import Derived.KernelRfl
namespace Go.Proofs.Ythomoliklfmnkaa
/- THE CELL 'sum', in the pinned program and in every row, IS THE sha256 OF THE DUMP (.gsa) THAT YthomoliklfmnkaaProg.lean LOADS. Nothing in Lean hashes anything: it is a label: what it is worth is what the hold of that sum in a sandbox is worth. -/
noncomputable def Try.pinned : Pinned := { name := "ythomoliklfmnkaa", sum := "016fee099344826e0fa79b6573f739f67a30dbc077274e17d87f617b4f3983a4", checked := Try.checked }
namespace Rows
def none {H : Type} : Left H := { results := [], args := [] }

/-- 'liglaw12.StoreUnder': WHATEVER THE INPUT: true; the input reads as it did. -/
def storeUnderSpec : ChangeSpec := { name := "storeUnder", fn := fun _ => fun
  | [d1, d2] => { results := [.lit (.bool true)], args := [d1, d2] }
  | _ => none }
def storeUnderRow : OpenClaim := { program := "ythomoliklfmnkaa", sum := "016fee099344826e0fa79b6573f739f67a30dbc077274e17d87f617b4f3983a4", func := "lighterman/liglaw12.StoreUnder", spec := "storeUnder", inPlace := ["internal/bytealg.abigen_runtime_cmpstring", "slices.overlaps[lighterman/proof.Pair]"], unfollowed := true, recurses := true, plainKeys := false, apart := false }
def StoreUnderSaid : Prop := storeUnderRow.holds Try.pinned (OpenSpec.ofChange storeUnderSpec)

/-- ITS FALSE NEIGHBOUR: 'it returns false'. Refute it at one input. -/
def storeUnderWrong : ChangeSpec := { name := "storeUnder", fn := fun _ => fun
  | [d1, d2] => { results := [.lit (.bool false)], args := [d1, d2] }
  | _ => none }
def StoreUnderWrongFalsely : Prop := storeUnderRow.holds Try.pinned (OpenSpec.ofChange storeUnderWrong)

/-- 'liglaw28.BatchCuts': WHATEVER THE INPUT: true; the input reads as it did. -/
def batchCutsSpec : ChangeSpec := { name := "batchCuts", fn := fun _ => fun
  | [d1, d2, d3, d4] => { results := [.lit (.bool true)], args := [d1, d2, d3, d4] }
  | _ => none }
def batchCutsRow : OpenClaim := { program := "ythomoliklfmnkaa", sum := "016fee099344826e0fa79b6573f739f67a30dbc077274e17d87f617b4f3983a4", func := "lighterman/liglaw28.BatchCuts", spec := "batchCuts", unfollowed := true, recurses := true, plainKeys := false, apart := false }
def BatchCutsSaid : Prop := batchCutsRow.holds Try.pinned (OpenSpec.ofChange batchCutsSpec)

/-- ITS FALSE NEIGHBOUR: 'it returns false'. Refute it at one input. -/
def batchCutsWrong : ChangeSpec := { name := "batchCuts", fn := fun _ => fun
  | [d1, d2, d3, d4] => { results := [.lit (.bool false)], args := [d1, d2, d3, d4] }
  | _ => none }
def BatchCutsWrongFalsely : Prop := batchCutsRow.holds Try.pinned (OpenSpec.ofChange batchCutsWrong)

/-- 'liglaw28.BatchWhole': WHATEVER THE INPUT: true; the input reads as it did. -/
def batchWholeSpec : ChangeSpec := { name := "batchWhole", fn := fun _ => fun
  | [d1, d2, d3, d4] => { results := [.lit (.bool true)], args := [d1, d2, d3, d4] }
  | _ => none }
def batchWholeRow : OpenClaim := { program := "ythomoliklfmnkaa", sum := "016fee099344826e0fa79b6573f739f67a30dbc077274e17d87f617b4f3983a4", func := "lighterman/liglaw28.BatchWhole", spec := "batchWhole", unfollowed := true, recurses := true, plainKeys := false, apart := false }
def BatchWholeSaid : Prop := batchWholeRow.holds Try.pinned (OpenSpec.ofChange batchWholeSpec)

/-- ITS FALSE NEIGHBOUR: 'it returns false'. Refute it at one input. -/
def batchWholeWrong : ChangeSpec := { name := "batchWhole", fn := fun _ => fun
  | [d1, d2, d3, d4] => { results := [.lit (.bool false)], args := [d1, d2, d3, d4] }
  | _ => none }
def BatchWholeWrongFalsely : Prop := batchWholeRow.holds Try.pinned (OpenSpec.ofChange batchWholeWrong)

/-- 'liglaw28.BatchMore': WHATEVER THE INPUT: true; the input reads as it did. -/
def batchMoreSpec : ChangeSpec := { name := "batchMore", fn := fun _ => fun
  | [d1, d2, d3, d4, d5] => { results := [.lit (.bool true)], args := [d1, d2, d3, d4, d5] }
  | _ => none }
def batchMoreRow : OpenClaim := { program := "ythomoliklfmnkaa", sum := "016fee099344826e0fa79b6573f739f67a30dbc077274e17d87f617b4f3983a4", func := "lighterman/liglaw28.BatchMore", spec := "batchMore", unfollowed := true, recurses := true, plainKeys := false, apart := false }
def BatchMoreSaid : Prop := batchMoreRow.holds Try.pinned (OpenSpec.ofChange batchMoreSpec)

/-- ITS FALSE NEIGHBOUR: 'it returns false'. Refute it at one input. -/
def batchMoreWrong : ChangeSpec := { name := "batchMore", fn := fun _ => fun
  | [d1, d2, d3, d4, d5] => { results := [.lit (.bool false)], args := [d1, d2, d3, d4, d5] }
  | _ => none }
def BatchMoreWrongFalsely : Prop := batchMoreRow.holds Try.pinned (OpenSpec.ofChange batchMoreWrong)

/-- 'liglaw28.BatchGroups': WHATEVER THE INPUT: true; the input reads as it did. -/
def batchGroupsSpec : ChangeSpec := { name := "batchGroups", fn := fun _ => fun
  | [d1, d2] => { results := [.lit (.bool true)], args := [d1, d2] }
  | _ => none }
def batchGroupsRow : OpenClaim := { program := "ythomoliklfmnkaa", sum := "016fee099344826e0fa79b6573f739f67a30dbc077274e17d87f617b4f3983a4", func := "lighterman/liglaw28.BatchGroups", spec := "batchGroups", unfollowed := true, recurses := true, plainKeys := false, apart := false }
def BatchGroupsSaid : Prop := batchGroupsRow.holds Try.pinned (OpenSpec.ofChange batchGroupsSpec)

/-- ITS FALSE NEIGHBOUR: 'it returns false'. Refute it at one input. -/
def batchGroupsWrong : ChangeSpec := { name := "batchGroups", fn := fun _ => fun
  | [d1, d2] => { results := [.lit (.bool false)], args := [d1, d2] }
  | _ => none }
def BatchGroupsWrongFalsely : Prop := batchGroupsRow.holds Try.pinned (OpenSpec.ofChange batchGroupsWrong)

/- THE SECOND FORM. 'bulk': how many values and letters a reading holds, each counted each time it is reached (what is shared counts as often as it is met; a slice's spare places count too). A statement '..UptoSaid' is the law's where the arguments, and the package variables that the reading takes, are together of bulk at most 1048576: NARROWER than '..Said'. Prove '..Said' where nothing that the law and all that it calls make is longer than what came in: it says more and counts as full. Else prove '..UptoSaid'. A law counts once. -/
mutual
def uptoBulk {H : Type} : DataW H → Nat
  | .lit (.string bytes) => bytes.length + 1
  | .lit _ => 1
  | .nil => 1
  | .ptr d => uptoBulk d + 1
  | .slice elems spare => uptoBulkAll elems + uptoBulkAll spare + 1
  | .agg parts => uptoBulkAll parts + 1
  | .iface _ d => uptoBulk d + 1
  | .map entries => uptoBulkEntries entries + 1
  | .held _ => 1
def uptoBulkAll {H : Type} : List (DataW H) → Nat
  | [] => 0
  | d :: r => uptoBulk d + uptoBulkAll r
def uptoBulkEntries {H : Type} : List (Lit × DataW H) → Nat
  | [] => 0
  | x :: r => uptoBulkEntry x + uptoBulkEntries r
def uptoBulkEntry {H : Type} : Lit × DataW H → Nat
  | (.string bytes, d) => bytes.length + uptoBulk d + 1
  | (_, d) => uptoBulk d + 1
 end
def uptoSmall : (H : Type) → List (DataW H) → Bool := fun _ ds => decide (uptoBulkAll ds ≤ 1048576)
def OpenSpec.upto (s : _root_.Go.ChangeSpec) : _root_.Go.OpenSpec := { _root_.Go.OpenSpec.ofChange s with cond := some uptoSmall }

/-- 'liglaw12.StoreUnder', WHERE WHAT IT READS IS OF BULK AT MOST 1048576: true; the input reads as it did. -/
def storeUnderUptoRow : OpenClaim := { program := "ythomoliklfmnkaa", sum := "016fee099344826e0fa79b6573f739f67a30dbc077274e17d87f617b4f3983a4", func := "lighterman/liglaw12.StoreUnder", spec := "storeUnder", inPlace := ["internal/bytealg.abigen_runtime_cmpstring", "slices.overlaps[lighterman/proof.Pair]"], unfollowed := true, recurses := true, plainKeys := false, apart := false, narrowed := true }
def StoreUnderUptoSaid : Prop := storeUnderUptoRow.holds Try.pinned (OpenSpec.upto storeUnderSpec)

/-- 'liglaw28.BatchCuts', WHERE WHAT IT READS IS OF BULK AT MOST 1048576: true; the input reads as it did. -/
def batchCutsUptoRow : OpenClaim := { program := "ythomoliklfmnkaa", sum := "016fee099344826e0fa79b6573f739f67a30dbc077274e17d87f617b4f3983a4", func := "lighterman/liglaw28.BatchCuts", spec := "batchCuts", unfollowed := true, recurses := true, plainKeys := false, apart := false, narrowed := true }
def BatchCutsUptoSaid : Prop := batchCutsUptoRow.holds Try.pinned (OpenSpec.upto batchCutsSpec)

/-- 'liglaw28.BatchWhole', WHERE WHAT IT READS IS OF BULK AT MOST 1048576: true; the input reads as it did. -/
def batchWholeUptoRow : OpenClaim := { program := "ythomoliklfmnkaa", sum := "016fee099344826e0fa79b6573f739f67a30dbc077274e17d87f617b4f3983a4", func := "lighterman/liglaw28.BatchWhole", spec := "batchWhole", unfollowed := true, recurses := true, plainKeys := false, apart := false, narrowed := true }
def BatchWholeUptoSaid : Prop := batchWholeUptoRow.holds Try.pinned (OpenSpec.upto batchWholeSpec)

/-- 'liglaw28.BatchMore', WHERE WHAT IT READS IS OF BULK AT MOST 1048576: true; the input reads as it did. -/
def batchMoreUptoRow : OpenClaim := { program := "ythomoliklfmnkaa", sum := "016fee099344826e0fa79b6573f739f67a30dbc077274e17d87f617b4f3983a4", func := "lighterman/liglaw28.BatchMore", spec := "batchMore", unfollowed := true, recurses := true, plainKeys := false, apart := false, narrowed := true }
def BatchMoreUptoSaid : Prop := batchMoreUptoRow.holds Try.pinned (OpenSpec.upto batchMoreSpec)

/-- 'liglaw28.BatchGroups', WHERE WHAT IT READS IS OF BULK AT MOST 1048576: true; the input reads as it did. -/
def batchGroupsUptoRow : OpenClaim := { program := "ythomoliklfmnkaa", sum := "016fee099344826e0fa79b6573f739f67a30dbc077274e17d87f617b4f3983a4", func := "lighterman/liglaw28.BatchGroups", spec := "batchGroups", unfollowed := true, recurses := true, plainKeys := false, apart := false, narrowed := true }
def BatchGroupsUptoSaid : Prop := batchGroupsUptoRow.holds Try.pinned (OpenSpec.upto batchGroupsSpec)

end Rows
end Go.Proofs.Ythomoliklfmnkaa
