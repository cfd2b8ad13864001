/-
  No cell of these rows narrows 'for every input' (looked for: loops, veiled, ifaces, maps, wideKeys, modest, calm, conditions, laid).
  DERIVED. THE GIVEN ROWS OF THIS SEAT. 5 by the template 'for every input the law returns true; each argument reads behind the call as it read before'; 0 by the template 'total and deterministic' (their statements: YtonkpggnlkkghaaTotals.lean).
  GIVEN WITH THE SEED: the statements are not yours to turn. If you find one false, say at which input.
  Laid BY PROGRAM, IN A SANDBOX (cutbox-rows.mjs): the forced cells as the released guide's own fill.sh prints them over the translation b3a5c040e5278744… (all of the seat's roots in one cut). By AI agents, Wed Nov 11 2026. No macro, syntax, notation, axiom, sorry.
-/
import Derived.Test.YtonkpggnlkkghaaChecked
import GoSem.Claim
import GoSem.ClaimJoined
import GoSem.ClaimMapViews
import Derived.JoinedTies
import Derived.KernelRfl
namespace Go.Proofs.Ytonkpggnlkkghaa
/- THE CELL 'sum', in the pinned program and in every row, IS THE sha256 OF THE DUMP (.gsa) THAT YtonkpggnlkkghaaProg.lean LOADS. Nothing in Lean hashes anything: it is a label: what it is worth is what the hold of that sum in a sandbox is worth. -/
noncomputable def Try.pinned : Pinned := { name := "ytonkpggnlkkghaa", sum := "b3a5c040e5278744ebb8fe081f6bf71593170a80b7ba732aeb9b86e6b6b2986e", checked := Try.checked }
namespace Rows
def none {H : Type} : Left H := { results := [], args := [] }

/-- 'liglaw23.SpanAll': WHATEVER THE INPUT: true; the input reads as it did. -/
def spanAllSpec : ChangeSpec := { name := "spanAll", fn := fun _ => fun
  | [d] => { results := [.lit (.bool true)], args := [d] }
  | _ => none }
def spanAllRow : OpenClaim := { program := "ytonkpggnlkkghaa", sum := "b3a5c040e5278744ebb8fe081f6bf71593170a80b7ba732aeb9b86e6b6b2986e", func := "lighterman/liglaw23.SpanAll", spec := "spanAll", recurses := true, apart := false }
def SpanAllSaid : Prop := spanAllRow.holds Try.pinned (OpenSpec.ofChange spanAllSpec)

/-- ITS FALSE NEIGHBOUR: 'it returns false'. Refute it at one input. -/
def spanAllWrong : ChangeSpec := { name := "spanAll", fn := fun _ => fun
  | [d] => { results := [.lit (.bool false)], args := [d] }
  | _ => none }
def SpanAllWrongFalsely : Prop := spanAllRow.holds Try.pinned (OpenSpec.ofChange spanAllWrong)

/-- 'liglaw23.SpanWhole': WHATEVER THE INPUT: true; the input reads as it did. -/
def spanWholeSpec : ChangeSpec := { name := "spanWhole", fn := fun _ => fun
  | [d1, d2, d3] => { results := [.lit (.bool true)], args := [d1, d2, d3] }
  | _ => none }
def spanWholeRow : OpenClaim := { program := "ytonkpggnlkkghaa", sum := "b3a5c040e5278744ebb8fe081f6bf71593170a80b7ba732aeb9b86e6b6b2986e", func := "lighterman/liglaw23.SpanWhole", spec := "spanWhole", unfollowed := true, recurses := true, apart := false }
def SpanWholeSaid : Prop := spanWholeRow.holds Try.pinned (OpenSpec.ofChange spanWholeSpec)

/-- ITS FALSE NEIGHBOUR: 'it returns false'. Refute it at one input. -/
def spanWholeWrong : ChangeSpec := { name := "spanWhole", fn := fun _ => fun
  | [d1, d2, d3] => { results := [.lit (.bool false)], args := [d1, d2, d3] }
  | _ => none }
def SpanWholeWrongFalsely : Prop := spanWholeRow.holds Try.pinned (OpenSpec.ofChange spanWholeWrong)

/-- 'liglaw23.SpanOf': WHATEVER THE INPUT: true; the input reads as it did. -/
def spanOfSpec : ChangeSpec := { name := "spanOf", fn := fun _ => fun
  | [d1, d2] => { results := [.lit (.bool true)], args := [d1, d2] }
  | _ => none }
def spanOfRow : OpenClaim := { program := "ytonkpggnlkkghaa", sum := "b3a5c040e5278744ebb8fe081f6bf71593170a80b7ba732aeb9b86e6b6b2986e", func := "lighterman/liglaw23.SpanOf", spec := "spanOf", unfollowed := true, recurses := true, apart := false }
def SpanOfSaid : Prop := spanOfRow.holds Try.pinned (OpenSpec.ofChange spanOfSpec)

/-- ITS FALSE NEIGHBOUR: 'it returns false'. Refute it at one input. -/
def spanOfWrong : ChangeSpec := { name := "spanOf", fn := fun _ => fun
  | [d1, d2] => { results := [.lit (.bool false)], args := [d1, d2] }
  | _ => none }
def SpanOfWrongFalsely : Prop := spanOfRow.holds Try.pinned (OpenSpec.ofChange spanOfWrong)

/-- 'liglaw23.SpanTells': WHATEVER THE INPUT: true; the input reads as it did. -/
def spanTellsSpec : ChangeSpec := { name := "spanTells", fn := fun _ => fun
  | [d1, d2, d3, d4, d5] => { results := [.lit (.bool true)], args := [d1, d2, d3, d4, d5] }
  | _ => none }
def spanTellsRow : OpenClaim := { program := "ytonkpggnlkkghaa", sum := "b3a5c040e5278744ebb8fe081f6bf71593170a80b7ba732aeb9b86e6b6b2986e", func := "lighterman/liglaw23.SpanTells", spec := "spanTells", unfollowed := true, recurses := true, apart := false }
def SpanTellsSaid : Prop := spanTellsRow.holds Try.pinned (OpenSpec.ofChange spanTellsSpec)

/-- ITS FALSE NEIGHBOUR: 'it returns false'. Refute it at one input. -/
def spanTellsWrong : ChangeSpec := { name := "spanTells", fn := fun _ => fun
  | [d1, d2, d3, d4, d5] => { results := [.lit (.bool false)], args := [d1, d2, d3, d4, d5] }
  | _ => none }
def SpanTellsWrongFalsely : Prop := spanTellsRow.holds Try.pinned (OpenSpec.ofChange spanTellsWrong)

/-- 'liglaw12.StoreUnder': WHATEVER THE INPUT: true; the input reads as it did. -/
def storeUnderSpec : ChangeSpec := { name := "storeUnder", fn := fun _ => fun
  | [d1, d2] => { results := [.lit (.bool true)], args := [d1, d2] }
  | _ => none }
def storeUnderRow : OpenClaim := { program := "ytonkpggnlkkghaa", sum := "b3a5c040e5278744ebb8fe081f6bf71593170a80b7ba732aeb9b86e6b6b2986e", func := "lighterman/liglaw12.StoreUnder", spec := "storeUnder", inPlace := ["internal/bytealg.abigen_runtime_cmpstring", "slices.overlaps[lighterman/proof.Pair]"], unfollowed := true, recurses := true, apart := false }
def StoreUnderSaid : Prop := storeUnderRow.holds Try.pinned (OpenSpec.ofChange storeUnderSpec)

/-- ITS FALSE NEIGHBOUR: 'it returns false'. Refute it at one input. -/
def storeUnderWrong : ChangeSpec := { name := "storeUnder", fn := fun _ => fun
  | [d1, d2] => { results := [.lit (.bool false)], args := [d1, d2] }
  | _ => none }
def StoreUnderWrongFalsely : Prop := storeUnderRow.holds Try.pinned (OpenSpec.ofChange storeUnderWrong)

/- THE SECOND FORM. 'bulk': how many values and letters a reading holds, each counted each time it is reached (what is shared counts as often as it is met; a slice's spare places count too). A statement '..UptoSaid' is the law's where the arguments, and the package variables that the reading takes, are together of bulk at most 1048576: NARROWER than '..Said'. Prove '..Said' where nothing that the law and all that it calls make is longer than what came in: it says more and counts as full. Else prove '..UptoSaid'. A law counts once. -/
mutual
def uptoBulk {H : Type} : DataW H → Nat
  | .lit (.string bytes) => bytes.length + 1
  | .lit _ => 1
  | .nil => 1
  | .ptr d => uptoBulk d + 1
  | .slice elems spare => uptoBulkAll elems + uptoBulkAll spare + 1
  | .agg parts => uptoBulkAll parts + 1
  | .iface _ d => uptoBulk d + 1
  | .map entries => uptoBulkEntries entries + 1
  | .held _ => 1
def uptoBulkAll {H : Type} : List (DataW H) → Nat
  | [] => 0
  | d :: r => uptoBulk d + uptoBulkAll r
def uptoBulkEntries {H : Type} : List (Lit × DataW H) → Nat
  | [] => 0
  | x :: r => uptoBulkEntry x + uptoBulkEntries r
def uptoBulkEntry {H : Type} : Lit × DataW H → Nat
  | (.string bytes, d) => bytes.length + uptoBulk d + 1
  | (_, d) => uptoBulk d + 1
 end
def uptoSmall : (H : Type) → List (DataW H) → Bool := fun _ ds => decide (uptoBulkAll ds ≤ 1048576)
def OpenSpec.upto (s : _root_.Go.ChangeSpec) : _root_.Go.OpenSpec := { _root_.Go.OpenSpec.ofChange s with cond := some uptoSmall }

/-- 'liglaw23.SpanAll', WHERE WHAT IT READS IS OF BULK AT MOST 1048576: true; the input reads as it did. -/
def spanAllUptoRow : OpenClaim := { program := "ytonkpggnlkkghaa", sum := "b3a5c040e5278744ebb8fe081f6bf71593170a80b7ba732aeb9b86e6b6b2986e", func := "lighterman/liglaw23.SpanAll", spec := "spanAll", recurses := true, apart := false, narrowed := true }
def SpanAllUptoSaid : Prop := spanAllUptoRow.holds Try.pinned (OpenSpec.upto spanAllSpec)

/-- 'liglaw23.SpanWhole', WHERE WHAT IT READS IS OF BULK AT MOST 1048576: true; the input reads as it did. -/
def spanWholeUptoRow : OpenClaim := { program := "ytonkpggnlkkghaa", sum := "b3a5c040e5278744ebb8fe081f6bf71593170a80b7ba732aeb9b86e6b6b2986e", func := "lighterman/liglaw23.SpanWhole", spec := "spanWhole", unfollowed := true, recurses := true, apart := false, narrowed := true }
def SpanWholeUptoSaid : Prop := spanWholeUptoRow.holds Try.pinned (OpenSpec.upto spanWholeSpec)

/-- 'liglaw23.SpanOf', WHERE WHAT IT READS IS OF BULK AT MOST 1048576: true; the input reads as it did. -/
def spanOfUptoRow : OpenClaim := { program := "ytonkpggnlkkghaa", sum := "b3a5c040e5278744ebb8fe081f6bf71593170a80b7ba732aeb9b86e6b6b2986e", func := "lighterman/liglaw23.SpanOf", spec := "spanOf", unfollowed := true, recurses := true, apart := false, narrowed := true }
def SpanOfUptoSaid : Prop := spanOfUptoRow.holds Try.pinned (OpenSpec.upto spanOfSpec)

/-- 'liglaw23.SpanTells', WHERE WHAT IT READS IS OF BULK AT MOST 1048576: true; the input reads as it did. -/
def spanTellsUptoRow : OpenClaim := { program := "ytonkpggnlkkghaa", sum := "b3a5c040e5278744ebb8fe081f6bf71593170a80b7ba732aeb9b86e6b6b2986e", func := "lighterman/liglaw23.SpanTells", spec := "spanTells", unfollowed := true, recurses := true, apart := false, narrowed := true }
def SpanTellsUptoSaid : Prop := spanTellsUptoRow.holds Try.pinned (OpenSpec.upto spanTellsSpec)

/-- 'liglaw12.StoreUnder', WHERE WHAT IT READS IS OF BULK AT MOST 1048576: true; the input reads as it did. -/
def storeUnderUptoRow : OpenClaim := { program := "ytonkpggnlkkghaa", sum := "b3a5c040e5278744ebb8fe081f6bf71593170a80b7ba732aeb9b86e6b6b2986e", func := "lighterman/liglaw12.StoreUnder", spec := "storeUnder", inPlace := ["internal/bytealg.abigen_runtime_cmpstring", "slices.overlaps[lighterman/proof.Pair]"], unfollowed := true, recurses := true, apart := false, narrowed := true }
def StoreUnderUptoSaid : Prop := storeUnderUptoRow.holds Try.pinned (OpenSpec.upto storeUnderSpec)

end Rows
end Go.Proofs.Ytonkpggnlkkghaa
