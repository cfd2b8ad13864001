/-
  No cell of these rows narrows 'for every input' (looked for: loops, veiled, ifaces, maps, wideKeys, modest, calm, conditions, laid).
  DERIVED. THE GIVEN ROWS OF THIS SEAT. 7 by the template 'for every input the law returns true; each argument reads behind the call as it read before'; 0 by the template 'total and deterministic' (their statements: YtpapfokdhmpmjaaTotals.lean).
  GIVEN WITH THE SEED: the statements are not yours to turn. If you find one false, say at which input.
  Laid BY PROGRAM, IN A SANDBOX (cutbox-rows.mjs): the forced cells as the released guide's own fill.sh prints them over the translation f54dd82ae4d2def1… (all of the seat's roots in one cut). By AI agents, Wed Nov 11 2026. No macro, syntax, notation, axiom, sorry.
-/
import Derived.Test.YtpapfokdhmpmjaaChecked
import GoSem.Claim
import GoSem.ClaimJoined
import GoSem.ClaimMapViews
import Derived.JoinedTies
import Derived.KernelRfl
namespace Go.Proofs.Ytpapfokdhmpmjaa
/- THE CELL 'sum', in the pinned program and in every row, IS THE sha256 OF THE DUMP (.gsa) THAT YtpapfokdhmpmjaaProg.lean LOADS. Nothing in Lean hashes anything: it is a label: what it is worth is what the hold of that sum in a sandbox is worth. -/
noncomputable def Try.pinned : Pinned := { name := "ytpapfokdhmpmjaa", sum := "f54dd82ae4d2def1249b3aa2014b90497a5aecb9a54b7e4f38816caa709d468f", checked := Try.checked }
namespace Rows
def none {H : Type} : Left H := { results := [], args := [] }

/-- 'liglaw9.EventApart': WHATEVER THE INPUT: true; the input reads as it did. -/
def eventApartSpec : ChangeSpec := { name := "eventApart", fn := fun _ => fun
  | [d1, d2] => { results := [.lit (.bool true)], args := [d1, d2] }
  | _ => none }
def eventApartRow : OpenClaim := { program := "ytpapfokdhmpmjaa", sum := "f54dd82ae4d2def1249b3aa2014b90497a5aecb9a54b7e4f38816caa709d468f", func := "lighterman/liglaw9.EventApart", spec := "eventApart", apart := false }
def EventApartSaid : Prop := eventApartRow.holds Try.pinned (OpenSpec.ofChange eventApartSpec)

/-- ITS FALSE NEIGHBOUR: 'it returns false'. Refute it at one input. -/
def eventApartWrong : ChangeSpec := { name := "eventApart", fn := fun _ => fun
  | [d1, d2] => { results := [.lit (.bool false)], args := [d1, d2] }
  | _ => none }
def EventApartWrongFalsely : Prop := eventApartRow.holds Try.pinned (OpenSpec.ofChange eventApartWrong)

/-- 'liglaw9.EventOwn': WHATEVER THE INPUT: true; the input reads as it did. -/
def eventOwnSpec : ChangeSpec := { name := "eventOwn", fn := fun _ => fun
  | [d1, d2, d3] => { results := [.lit (.bool true)], args := [d1, d2, d3] }
  | _ => none }
def eventOwnRow : OpenClaim := { program := "ytpapfokdhmpmjaa", sum := "f54dd82ae4d2def1249b3aa2014b90497a5aecb9a54b7e4f38816caa709d468f", func := "lighterman/liglaw9.EventOwn", spec := "eventOwn", apart := false }
def EventOwnSaid : Prop := eventOwnRow.holds Try.pinned (OpenSpec.ofChange eventOwnSpec)

/-- ITS FALSE NEIGHBOUR: 'it returns false'. Refute it at one input. -/
def eventOwnWrong : ChangeSpec := { name := "eventOwn", fn := fun _ => fun
  | [d1, d2, d3] => { results := [.lit (.bool false)], args := [d1, d2, d3] }
  | _ => none }
def EventOwnWrongFalsely : Prop := eventOwnRow.holds Try.pinned (OpenSpec.ofChange eventOwnWrong)

/-- 'liglaw10.BlockPeek': WHATEVER THE INPUT: true; the input reads as it did. -/
def blockPeekSpec : ChangeSpec := { name := "blockPeek", fn := fun _ => fun
  | [d1, d2] => { results := [.lit (.bool true)], args := [d1, d2] }
  | _ => none }
def blockPeekRow : OpenClaim := { program := "ytpapfokdhmpmjaa", sum := "f54dd82ae4d2def1249b3aa2014b90497a5aecb9a54b7e4f38816caa709d468f", func := "lighterman/liglaw10.BlockPeek", spec := "blockPeek", apart := false }
def BlockPeekSaid : Prop := blockPeekRow.holds Try.pinned (OpenSpec.ofChange blockPeekSpec)

/-- ITS FALSE NEIGHBOUR: 'it returns false'. Refute it at one input. -/
def blockPeekWrong : ChangeSpec := { name := "blockPeek", fn := fun _ => fun
  | [d1, d2] => { results := [.lit (.bool false)], args := [d1, d2] }
  | _ => none }
def BlockPeekWrongFalsely : Prop := blockPeekRow.holds Try.pinned (OpenSpec.ofChange blockPeekWrong)

/-- 'liglaw9.EventBack': WHATEVER THE INPUT: true; the input reads as it did. -/
def eventBackSpec : ChangeSpec := { name := "eventBack", fn := fun _ => fun
  | [d1, d2, d3] => { results := [.lit (.bool true)], args := [d1, d2, d3] }
  | _ => none }
def eventBackRow : OpenClaim := { program := "ytpapfokdhmpmjaa", sum := "f54dd82ae4d2def1249b3aa2014b90497a5aecb9a54b7e4f38816caa709d468f", func := "lighterman/liglaw9.EventBack", spec := "eventBack", apart := false }
def EventBackSaid : Prop := eventBackRow.holds Try.pinned (OpenSpec.ofChange eventBackSpec)

/-- ITS FALSE NEIGHBOUR: 'it returns false'. Refute it at one input. -/
def eventBackWrong : ChangeSpec := { name := "eventBack", fn := fun _ => fun
  | [d1, d2, d3] => { results := [.lit (.bool false)], args := [d1, d2, d3] }
  | _ => none }
def EventBackWrongFalsely : Prop := eventBackRow.holds Try.pinned (OpenSpec.ofChange eventBackWrong)

/-- 'liglaw10.BlockBack': WHATEVER THE INPUT: true; the input reads as it did. -/
def blockBackSpec : ChangeSpec := { name := "blockBack", fn := fun _ => fun
  | [d1, d2, d3] => { results := [.lit (.bool true)], args := [d1, d2, d3] }
  | _ => none }
def blockBackRow : OpenClaim := { program := "ytpapfokdhmpmjaa", sum := "f54dd82ae4d2def1249b3aa2014b90497a5aecb9a54b7e4f38816caa709d468f", func := "lighterman/liglaw10.BlockBack", spec := "blockBack", apart := false }
def BlockBackSaid : Prop := blockBackRow.holds Try.pinned (OpenSpec.ofChange blockBackSpec)

/-- ITS FALSE NEIGHBOUR: 'it returns false'. Refute it at one input. -/
def blockBackWrong : ChangeSpec := { name := "blockBack", fn := fun _ => fun
  | [d1, d2, d3] => { results := [.lit (.bool false)], args := [d1, d2, d3] }
  | _ => none }
def BlockBackWrongFalsely : Prop := blockBackRow.holds Try.pinned (OpenSpec.ofChange blockBackWrong)

/-- 'liglaw10.BlockEvents': WHATEVER THE INPUT: true; the input reads as it did. -/
def blockEventsSpec : ChangeSpec := { name := "blockEvents", fn := fun _ => fun
  | [d1, d2, d3] => { results := [.lit (.bool true)], args := [d1, d2, d3] }
  | _ => none }
def blockEventsRow : OpenClaim := { program := "ytpapfokdhmpmjaa", sum := "f54dd82ae4d2def1249b3aa2014b90497a5aecb9a54b7e4f38816caa709d468f", func := "lighterman/liglaw10.BlockEvents", spec := "blockEvents", apart := false }
def BlockEventsSaid : Prop := blockEventsRow.holds Try.pinned (OpenSpec.ofChange blockEventsSpec)

/-- ITS FALSE NEIGHBOUR: 'it returns false'. Refute it at one input. -/
def blockEventsWrong : ChangeSpec := { name := "blockEvents", fn := fun _ => fun
  | [d1, d2, d3] => { results := [.lit (.bool false)], args := [d1, d2, d3] }
  | _ => none }
def BlockEventsWrongFalsely : Prop := blockEventsRow.holds Try.pinned (OpenSpec.ofChange blockEventsWrong)

/-- 'liglaw10.BlockTells': WHATEVER THE INPUT: true; the input reads as it did. -/
def blockTellsSpec : ChangeSpec := { name := "blockTells", fn := fun _ => fun
  | [d1, d2, d3] => { results := [.lit (.bool true)], args := [d1, d2, d3] }
  | _ => none }
def blockTellsRow : OpenClaim := { program := "ytpapfokdhmpmjaa", sum := "f54dd82ae4d2def1249b3aa2014b90497a5aecb9a54b7e4f38816caa709d468f", func := "lighterman/liglaw10.BlockTells", spec := "blockTells", apart := false }
def BlockTellsSaid : Prop := blockTellsRow.holds Try.pinned (OpenSpec.ofChange blockTellsSpec)

/-- ITS FALSE NEIGHBOUR: 'it returns false'. Refute it at one input. -/
def blockTellsWrong : ChangeSpec := { name := "blockTells", fn := fun _ => fun
  | [d1, d2, d3] => { results := [.lit (.bool false)], args := [d1, d2, d3] }
  | _ => none }
def BlockTellsWrongFalsely : Prop := blockTellsRow.holds Try.pinned (OpenSpec.ofChange blockTellsWrong)

/- THE SECOND FORM. 'bulk': how many values and letters a reading holds, each counted each time it is reached (what is shared counts as often as it is met; a slice's spare places count too). A statement '..UptoSaid' is the law's where the arguments, and the package variables that the reading takes, are together of bulk at most 1048576: NARROWER than '..Said'. Prove '..Said' where nothing that the law and all that it calls make is longer than what came in: it says more and counts as full. Else prove '..UptoSaid'. A law counts once. -/
mutual
def uptoBulk {H : Type} : DataW H → Nat
  | .lit (.string bytes) => bytes.length + 1
  | .lit _ => 1
  | .nil => 1
  | .ptr d => uptoBulk d + 1
  | .slice elems spare => uptoBulkAll elems + uptoBulkAll spare + 1
  | .agg parts => uptoBulkAll parts + 1
  | .iface _ d => uptoBulk d + 1
  | .map entries => uptoBulkEntries entries + 1
  | .held _ => 1
def uptoBulkAll {H : Type} : List (DataW H) → Nat
  | [] => 0
  | d :: r => uptoBulk d + uptoBulkAll r
def uptoBulkEntries {H : Type} : List (Lit × DataW H) → Nat
  | [] => 0
  | x :: r => uptoBulkEntry x + uptoBulkEntries r
def uptoBulkEntry {H : Type} : Lit × DataW H → Nat
  | (.string bytes, d) => bytes.length + uptoBulk d + 1
  | (_, d) => uptoBulk d + 1
 end
def uptoSmall : (H : Type) → List (DataW H) → Bool := fun _ ds => decide (uptoBulkAll ds ≤ 1048576)
def OpenSpec.upto (s : _root_.Go.ChangeSpec) : _root_.Go.OpenSpec := { _root_.Go.OpenSpec.ofChange s with cond := some uptoSmall }

/-- 'liglaw9.EventApart', WHERE WHAT IT READS IS OF BULK AT MOST 1048576: true; the input reads as it did. -/
def eventApartUptoRow : OpenClaim := { program := "ytpapfokdhmpmjaa", sum := "f54dd82ae4d2def1249b3aa2014b90497a5aecb9a54b7e4f38816caa709d468f", func := "lighterman/liglaw9.EventApart", spec := "eventApart", apart := false, narrowed := true }
def EventApartUptoSaid : Prop := eventApartUptoRow.holds Try.pinned (OpenSpec.upto eventApartSpec)

/-- 'liglaw9.EventOwn', WHERE WHAT IT READS IS OF BULK AT MOST 1048576: true; the input reads as it did. -/
def eventOwnUptoRow : OpenClaim := { program := "ytpapfokdhmpmjaa", sum := "f54dd82ae4d2def1249b3aa2014b90497a5aecb9a54b7e4f38816caa709d468f", func := "lighterman/liglaw9.EventOwn", spec := "eventOwn", apart := false, narrowed := true }
def EventOwnUptoSaid : Prop := eventOwnUptoRow.holds Try.pinned (OpenSpec.upto eventOwnSpec)

/-- 'liglaw10.BlockPeek', WHERE WHAT IT READS IS OF BULK AT MOST 1048576: true; the input reads as it did. -/
def blockPeekUptoRow : OpenClaim := { program := "ytpapfokdhmpmjaa", sum := "f54dd82ae4d2def1249b3aa2014b90497a5aecb9a54b7e4f38816caa709d468f", func := "lighterman/liglaw10.BlockPeek", spec := "blockPeek", apart := false, narrowed := true }
def BlockPeekUptoSaid : Prop := blockPeekUptoRow.holds Try.pinned (OpenSpec.upto blockPeekSpec)

/-- 'liglaw9.EventBack', WHERE WHAT IT READS IS OF BULK AT MOST 1048576: true; the input reads as it did. -/
def eventBackUptoRow : OpenClaim := { program := "ytpapfokdhmpmjaa", sum := "f54dd82ae4d2def1249b3aa2014b90497a5aecb9a54b7e4f38816caa709d468f", func := "lighterman/liglaw9.EventBack", spec := "eventBack", apart := false, narrowed := true }
def EventBackUptoSaid : Prop := eventBackUptoRow.holds Try.pinned (OpenSpec.upto eventBackSpec)

/-- 'liglaw10.BlockBack', WHERE WHAT IT READS IS OF BULK AT MOST 1048576: true; the input reads as it did. -/
def blockBackUptoRow : OpenClaim := { program := "ytpapfokdhmpmjaa", sum := "f54dd82ae4d2def1249b3aa2014b90497a5aecb9a54b7e4f38816caa709d468f", func := "lighterman/liglaw10.BlockBack", spec := "blockBack", apart := false, narrowed := true }
def BlockBackUptoSaid : Prop := blockBackUptoRow.holds Try.pinned (OpenSpec.upto blockBackSpec)

/-- 'liglaw10.BlockEvents', WHERE WHAT IT READS IS OF BULK AT MOST 1048576: true; the input reads as it did. -/
def blockEventsUptoRow : OpenClaim := { program := "ytpapfokdhmpmjaa", sum := "f54dd82ae4d2def1249b3aa2014b90497a5aecb9a54b7e4f38816caa709d468f", func := "lighterman/liglaw10.BlockEvents", spec := "blockEvents", apart := false, narrowed := true }
def BlockEventsUptoSaid : Prop := blockEventsUptoRow.holds Try.pinned (OpenSpec.upto blockEventsSpec)

/-- 'liglaw10.BlockTells', WHERE WHAT IT READS IS OF BULK AT MOST 1048576: true; the input reads as it did. -/
def blockTellsUptoRow : OpenClaim := { program := "ytpapfokdhmpmjaa", sum := "f54dd82ae4d2def1249b3aa2014b90497a5aecb9a54b7e4f38816caa709d468f", func := "lighterman/liglaw10.BlockTells", spec := "blockTells", apart := false, narrowed := true }
def BlockTellsUptoSaid : Prop := blockTellsUptoRow.holds Try.pinned (OpenSpec.upto blockTellsSpec)

end Rows
end Go.Proofs.Ytpapfokdhmpmjaa
