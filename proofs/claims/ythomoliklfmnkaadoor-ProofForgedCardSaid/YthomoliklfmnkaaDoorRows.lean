/-
  NARROWER THAN 'FOR EVERY INPUT', by the rows' own cells (each row's printed sentence says how): ProofTells: laid · ProofShows: laid · ProofForged: laid · StoreOrder: laid · StoreCopies: laid · StorePlays: laid · PastStays: laid · ProofBytes: laid · StoreProves: laid · PastProves: laid.
  DERIVED. THE GIVEN ROWS OF THIS SEAT. 10 by the template 'for every input the law returns true; each argument reads behind the call as it read before'; 0 by the template 'total and deterministic' (their statements: YthomoliklfmnkaaDoorTotals.lean).
  GIVEN WITH THE SEED: the statements are not yours to turn. If you find one false, say at which input.
  Laid BY PROGRAM, IN A SANDBOX (cutbox-rows.mjs): the forced cells as the released guide's own fill.sh prints them over the translation 66bb3050fc7b601b… (all of the seat's roots in one cut). By AI agents, Wed Nov 11 2026. No macro, syntax, notation, axiom, sorry.
-/
import Derived.Test.YthomoliklfmnkaaDoorChecked
import GoSem.Claim
import GoSem.ClaimJoined
import GoSem.ClaimMapViews
import Derived.JoinedTies
import Derived.KernelRfl
namespace Go.Proofs.YthomoliklfmnkaaDoor
/- THE CELL 'sum', in the pinned program and in every row, IS THE sha256 OF THE DUMP (.gsa) THAT YthomoliklfmnkaaDoorProg.lean LOADS. Nothing in Lean hashes anything: it is a label: what it is worth is what the hold of that sum in a sandbox is worth. -/
noncomputable def Tryd.pinned : Pinned := { name := "ythomoliklfmnkaadoor", sum := "66bb3050fc7b601b75507b42e35c594c29f21321a85abb2ea6dcd880b5653d45", checked := Tryd.checked }
namespace Rows
def none {H : Type} : Left H := { results := [], args := [] }

/- WHAT THE LISTED PACKAGE-LEVEL VARIABLES READ AS WHEN THE CALL BEGINS. Each datum BY PROGRAM (the guide's laid-datum.mjs) off the statement by which the dump's own 'gosem.cut.vars' lays the variable. In a bare row this is a premise. The card (YthomoliklfmnkaaDoorCards.lean) ties it to the program's text. -/
def laid_lighterman_sha_steps {H : Type} : DataW H := .agg [.lit (.int .u32 1116352408), .lit (.int .u32 1899447441), .lit (.int .u32 3049323471), .lit (.int .u32 3921009573), .lit (.int .u32 961987163), .lit (.int .u32 1508970993), .lit (.int .u32 2453635748), .lit (.int .u32 2870763221), .lit (.int .u32 3624381080), .lit (.int .u32 310598401), .lit (.int .u32 607225278), .lit (.int .u32 1426881987), .lit (.int .u32 1925078388), .lit (.int .u32 2162078206), .lit (.int .u32 2614888103), .lit (.int .u32 3248222580), .lit (.int .u32 3835390401), .lit (.int .u32 4022224774), .lit (.int .u32 264347078), .lit (.int .u32 604807628), .lit (.int .u32 770255983), .lit (.int .u32 1249150122), .lit (.int .u32 1555081692), .lit (.int .u32 1996064986), .lit (.int .u32 2554220882), .lit (.int .u32 2821834349), .lit (.int .u32 2952996808), .lit (.int .u32 3210313671), .lit (.int .u32 3336571891), .lit (.int .u32 3584528711), .lit (.int .u32 113926993), .lit (.int .u32 338241895), .lit (.int .u32 666307205), .lit (.int .u32 773529912), .lit (.int .u32 1294757372), .lit (.int .u32 1396182291), .lit (.int .u32 1695183700), .lit (.int .u32 1986661051), .lit (.int .u32 2177026350), .lit (.int .u32 2456956037), .lit (.int .u32 2730485921), .lit (.int .u32 2820302411), .lit (.int .u32 3259730800), .lit (.int .u32 3345764771), .lit (.int .u32 3516065817), .lit (.int .u32 3600352804), .lit (.int .u32 4094571909), .lit (.int .u32 275423344), .lit (.int .u32 430227734), .lit (.int .u32 506948616), .lit (.int .u32 659060556), .lit (.int .u32 883997877), .lit (.int .u32 958139571), .lit (.int .u32 1322822218), .lit (.int .u32 1537002063), .lit (.int .u32 1747873779), .lit (.int .u32 1955562222), .lit (.int .u32 2024104815), .lit (.int .u32 2227730452), .lit (.int .u32 2361852424), .lit (.int .u32 2428436474), .lit (.int .u32 2756734187), .lit (.int .u32 3204031479), .lit (.int .u32 3329325298)]

/-- 'liglaw7.ProofTells': WHATEVER THE INPUT: true; the input reads as it did. -/
def proofTellsSpec : ChangeSpec := { name := "proofTells", fn := fun _ => fun
  | [d1, d2, d3, d4, d5, d6] => { results := [.lit (.bool true)], args := [d1, d2, d3, d4, d5, d6] }
  | _ => none }
def proofTellsRow : OpenClaim := { program := "ythomoliklfmnkaadoor", sum := "66bb3050fc7b601b75507b42e35c594c29f21321a85abb2ea6dcd880b5653d45", func := "lighterman/liglaw7.ProofTells", spec := "proofTells", inPlace := ["internal/abi.NoEscape", "internal/bytealg.MakeNoZero"], unfollowed := true, recurses := true, named := ["lighterman/sha.steps"], plainKeys := false, apart := false, laid := [("lighterman/sha.steps", laid_lighterman_sha_steps)] }
def ProofTellsSaid : Prop := proofTellsRow.holds Tryd.pinned (OpenSpec.ofChange proofTellsSpec)

/-- ITS FALSE NEIGHBOUR: 'it returns false'. Refute it at one input. -/
def proofTellsWrong : ChangeSpec := { name := "proofTells", fn := fun _ => fun
  | [d1, d2, d3, d4, d5, d6] => { results := [.lit (.bool false)], args := [d1, d2, d3, d4, d5, d6] }
  | _ => none }
def ProofTellsWrongFalsely : Prop := proofTellsRow.holds Tryd.pinned (OpenSpec.ofChange proofTellsWrong)

/-- 'liglaw7.ProofShows': WHATEVER THE INPUT: true; the input reads as it did. -/
def proofShowsSpec : ChangeSpec := { name := "proofShows", fn := fun _ => fun
  | [d1, d2] => { results := [.lit (.bool true)], args := [d1, d2] }
  | _ => none }
def proofShowsRow : OpenClaim := { program := "ythomoliklfmnkaadoor", sum := "66bb3050fc7b601b75507b42e35c594c29f21321a85abb2ea6dcd880b5653d45", func := "lighterman/liglaw7.ProofShows", spec := "proofShows", inPlace := ["internal/abi.NoEscape", "internal/bytealg.MakeNoZero"], unfollowed := true, recurses := true, named := ["lighterman/sha.steps"], plainKeys := false, apart := false, laid := [("lighterman/sha.steps", laid_lighterman_sha_steps)] }
def ProofShowsSaid : Prop := proofShowsRow.holds Tryd.pinned (OpenSpec.ofChange proofShowsSpec)

/-- ITS FALSE NEIGHBOUR: 'it returns false'. Refute it at one input. -/
def proofShowsWrong : ChangeSpec := { name := "proofShows", fn := fun _ => fun
  | [d1, d2] => { results := [.lit (.bool false)], args := [d1, d2] }
  | _ => none }
def ProofShowsWrongFalsely : Prop := proofShowsRow.holds Tryd.pinned (OpenSpec.ofChange proofShowsWrong)

/-- 'liglaw7.ProofForged': WHATEVER THE INPUT: true; the input reads as it did. -/
def proofForgedSpec : ChangeSpec := { name := "proofForged", fn := fun _ => fun
  | [d1, d2, d3] => { results := [.lit (.bool true)], args := [d1, d2, d3] }
  | _ => none }
def proofForgedRow : OpenClaim := { program := "ythomoliklfmnkaadoor", sum := "66bb3050fc7b601b75507b42e35c594c29f21321a85abb2ea6dcd880b5653d45", func := "lighterman/liglaw7.ProofForged", spec := "proofForged", inPlace := ["internal/abi.NoEscape", "internal/bytealg.MakeNoZero"], unfollowed := true, recurses := true, named := ["lighterman/sha.steps"], plainKeys := false, apart := false, laid := [("lighterman/sha.steps", laid_lighterman_sha_steps)] }
def ProofForgedSaid : Prop := proofForgedRow.holds Tryd.pinned (OpenSpec.ofChange proofForgedSpec)

/-- ITS FALSE NEIGHBOUR: 'it returns false'. Refute it at one input. -/
def proofForgedWrong : ChangeSpec := { name := "proofForged", fn := fun _ => fun
  | [d1, d2, d3] => { results := [.lit (.bool false)], args := [d1, d2, d3] }
  | _ => none }
def ProofForgedWrongFalsely : Prop := proofForgedRow.holds Tryd.pinned (OpenSpec.ofChange proofForgedWrong)

/-- 'liglaw12.StoreOrder': WHATEVER THE INPUT: true; the input reads as it did. -/
def storeOrderSpec : ChangeSpec := { name := "storeOrder", fn := fun _ => fun
  | [d1, d2] => { results := [.lit (.bool true)], args := [d1, d2] }
  | _ => none }
def storeOrderRow : OpenClaim := { program := "ythomoliklfmnkaadoor", sum := "66bb3050fc7b601b75507b42e35c594c29f21321a85abb2ea6dcd880b5653d45", func := "lighterman/liglaw12.StoreOrder", spec := "storeOrder", inPlace := ["internal/bytealg.abigen_runtime_cmpstring", "slices.overlaps[lighterman/proof.Pair]", "internal/abi.NoEscape", "internal/bytealg.MakeNoZero"], unfollowed := true, recurses := true, named := ["lighterman/sha.steps"], plainKeys := false, apart := false, laid := [("lighterman/sha.steps", laid_lighterman_sha_steps)] }
def StoreOrderSaid : Prop := storeOrderRow.holds Tryd.pinned (OpenSpec.ofChange storeOrderSpec)

/-- ITS FALSE NEIGHBOUR: 'it returns false'. Refute it at one input. -/
def storeOrderWrong : ChangeSpec := { name := "storeOrder", fn := fun _ => fun
  | [d1, d2] => { results := [.lit (.bool false)], args := [d1, d2] }
  | _ => none }
def StoreOrderWrongFalsely : Prop := storeOrderRow.holds Tryd.pinned (OpenSpec.ofChange storeOrderWrong)

/-- 'liglaw12.StoreCopies': WHATEVER THE INPUT: true; the input reads as it did. -/
def storeCopiesSpec : ChangeSpec := { name := "storeCopies", fn := fun _ => fun
  | [d1, d2, d3] => { results := [.lit (.bool true)], args := [d1, d2, d3] }
  | _ => none }
def storeCopiesRow : OpenClaim := { program := "ythomoliklfmnkaadoor", sum := "66bb3050fc7b601b75507b42e35c594c29f21321a85abb2ea6dcd880b5653d45", func := "lighterman/liglaw12.StoreCopies", spec := "storeCopies", inPlace := ["internal/bytealg.abigen_runtime_cmpstring", "slices.overlaps[lighterman/proof.Pair]", "internal/abi.NoEscape", "internal/bytealg.MakeNoZero"], unfollowed := true, recurses := true, named := ["lighterman/sha.steps"], plainKeys := false, apart := false, laid := [("lighterman/sha.steps", laid_lighterman_sha_steps)] }
def StoreCopiesSaid : Prop := storeCopiesRow.holds Tryd.pinned (OpenSpec.ofChange storeCopiesSpec)

/-- ITS FALSE NEIGHBOUR: 'it returns false'. Refute it at one input. -/
def storeCopiesWrong : ChangeSpec := { name := "storeCopies", fn := fun _ => fun
  | [d1, d2, d3] => { results := [.lit (.bool false)], args := [d1, d2, d3] }
  | _ => none }
def StoreCopiesWrongFalsely : Prop := storeCopiesRow.holds Tryd.pinned (OpenSpec.ofChange storeCopiesWrong)

/-- 'liglaw12.StorePlays': WHATEVER THE INPUT: true; the input reads as it did. -/
def storePlaysSpec : ChangeSpec := { name := "storePlays", fn := fun _ => fun
  | [d1, d2, d3] => { results := [.lit (.bool true)], args := [d1, d2, d3] }
  | _ => none }
def storePlaysRow : OpenClaim := { program := "ythomoliklfmnkaadoor", sum := "66bb3050fc7b601b75507b42e35c594c29f21321a85abb2ea6dcd880b5653d45", func := "lighterman/liglaw12.StorePlays", spec := "storePlays", inPlace := ["internal/bytealg.abigen_runtime_cmpstring", "slices.overlaps[lighterman/proof.Pair]", "internal/abi.NoEscape", "internal/bytealg.MakeNoZero"], unfollowed := true, recurses := true, named := ["lighterman/sha.steps"], plainKeys := false, apart := false, laid := [("lighterman/sha.steps", laid_lighterman_sha_steps)] }
def StorePlaysSaid : Prop := storePlaysRow.holds Tryd.pinned (OpenSpec.ofChange storePlaysSpec)

/-- ITS FALSE NEIGHBOUR: 'it returns false'. Refute it at one input. -/
def storePlaysWrong : ChangeSpec := { name := "storePlays", fn := fun _ => fun
  | [d1, d2, d3] => { results := [.lit (.bool false)], args := [d1, d2, d3] }
  | _ => none }
def StorePlaysWrongFalsely : Prop := storePlaysRow.holds Tryd.pinned (OpenSpec.ofChange storePlaysWrong)

/-- 'liglaw13.PastStays': WHATEVER THE INPUT: true; the input reads as it did. -/
def pastStaysSpec : ChangeSpec := { name := "pastStays", fn := fun _ => fun
  | [d1, d2, d3] => { results := [.lit (.bool true)], args := [d1, d2, d3] }
  | _ => none }
def pastStaysRow : OpenClaim := { program := "ythomoliklfmnkaadoor", sum := "66bb3050fc7b601b75507b42e35c594c29f21321a85abb2ea6dcd880b5653d45", func := "lighterman/liglaw13.PastStays", spec := "pastStays", inPlace := ["internal/abi.NoEscape", "internal/bytealg.MakeNoZero", "internal/bytealg.abigen_runtime_cmpstring", "slices.overlaps[lighterman/proof.Pair]"], unfollowed := true, recurses := true, named := ["lighterman/sha.steps"], plainKeys := false, apart := false, laid := [("lighterman/sha.steps", laid_lighterman_sha_steps)] }
def PastStaysSaid : Prop := pastStaysRow.holds Tryd.pinned (OpenSpec.ofChange pastStaysSpec)

/-- ITS FALSE NEIGHBOUR: 'it returns false'. Refute it at one input. -/
def pastStaysWrong : ChangeSpec := { name := "pastStays", fn := fun _ => fun
  | [d1, d2, d3] => { results := [.lit (.bool false)], args := [d1, d2, d3] }
  | _ => none }
def PastStaysWrongFalsely : Prop := pastStaysRow.holds Tryd.pinned (OpenSpec.ofChange pastStaysWrong)

/-- 'liglaw7.ProofBytes': WHATEVER THE INPUT: true; the input reads as it did. -/
def proofBytesSpec : ChangeSpec := { name := "proofBytes", fn := fun _ => fun
  | [d1, d2, d3] => { results := [.lit (.bool true)], args := [d1, d2, d3] }
  | _ => none }
def proofBytesRow : OpenClaim := { program := "ythomoliklfmnkaadoor", sum := "66bb3050fc7b601b75507b42e35c594c29f21321a85abb2ea6dcd880b5653d45", func := "lighterman/liglaw7.ProofBytes", spec := "proofBytes", inPlace := ["internal/abi.NoEscape", "internal/bytealg.MakeNoZero"], unfollowed := true, recurses := true, named := ["lighterman/sha.steps"], plainKeys := false, apart := false, laid := [("lighterman/sha.steps", laid_lighterman_sha_steps)] }
def ProofBytesSaid : Prop := proofBytesRow.holds Tryd.pinned (OpenSpec.ofChange proofBytesSpec)

/-- ITS FALSE NEIGHBOUR: 'it returns false'. Refute it at one input. -/
def proofBytesWrong : ChangeSpec := { name := "proofBytes", fn := fun _ => fun
  | [d1, d2, d3] => { results := [.lit (.bool false)], args := [d1, d2, d3] }
  | _ => none }
def ProofBytesWrongFalsely : Prop := proofBytesRow.holds Tryd.pinned (OpenSpec.ofChange proofBytesWrong)

/-- 'liglaw12.StoreProves': WHATEVER THE INPUT: true; the input reads as it did. -/
def storeProvesSpec : ChangeSpec := { name := "storeProves", fn := fun _ => fun
  | [d1, d2] => { results := [.lit (.bool true)], args := [d1, d2] }
  | _ => none }
def storeProvesRow : OpenClaim := { program := "ythomoliklfmnkaadoor", sum := "66bb3050fc7b601b75507b42e35c594c29f21321a85abb2ea6dcd880b5653d45", func := "lighterman/liglaw12.StoreProves", spec := "storeProves", inPlace := ["internal/bytealg.abigen_runtime_cmpstring", "slices.overlaps[lighterman/proof.Pair]", "internal/abi.NoEscape", "internal/bytealg.MakeNoZero"], unfollowed := true, recurses := true, named := ["lighterman/sha.steps"], plainKeys := false, apart := false, laid := [("lighterman/sha.steps", laid_lighterman_sha_steps)] }
def StoreProvesSaid : Prop := storeProvesRow.holds Tryd.pinned (OpenSpec.ofChange storeProvesSpec)

/-- ITS FALSE NEIGHBOUR: 'it returns false'. Refute it at one input. -/
def storeProvesWrong : ChangeSpec := { name := "storeProves", fn := fun _ => fun
  | [d1, d2] => { results := [.lit (.bool false)], args := [d1, d2] }
  | _ => none }
def StoreProvesWrongFalsely : Prop := storeProvesRow.holds Tryd.pinned (OpenSpec.ofChange storeProvesWrong)

/-- 'liglaw13.PastProves': WHATEVER THE INPUT: true; the input reads as it did. -/
def pastProvesSpec : ChangeSpec := { name := "pastProves", fn := fun _ => fun
  | [d1, d2] => { results := [.lit (.bool true)], args := [d1, d2] }
  | _ => none }
def pastProvesRow : OpenClaim := { program := "ythomoliklfmnkaadoor", sum := "66bb3050fc7b601b75507b42e35c594c29f21321a85abb2ea6dcd880b5653d45", func := "lighterman/liglaw13.PastProves", spec := "pastProves", inPlace := ["internal/abi.NoEscape", "internal/bytealg.MakeNoZero", "internal/bytealg.abigen_runtime_cmpstring", "slices.overlaps[lighterman/proof.Pair]"], unfollowed := true, recurses := true, named := ["lighterman/sha.steps"], plainKeys := false, apart := false, laid := [("lighterman/sha.steps", laid_lighterman_sha_steps)] }
def PastProvesSaid : Prop := pastProvesRow.holds Tryd.pinned (OpenSpec.ofChange pastProvesSpec)

/-- ITS FALSE NEIGHBOUR: 'it returns false'. Refute it at one input. -/
def pastProvesWrong : ChangeSpec := { name := "pastProves", fn := fun _ => fun
  | [d1, d2] => { results := [.lit (.bool false)], args := [d1, d2] }
  | _ => none }
def PastProvesWrongFalsely : Prop := pastProvesRow.holds Tryd.pinned (OpenSpec.ofChange pastProvesWrong)

/- THE SECOND FORM. 'bulk': how many values and letters a reading holds, each counted each time it is reached (what is shared counts as often as it is met; a slice's spare places count too). A statement '..UptoSaid' is the law's where the arguments, and the package variables that the reading takes, are together of bulk at most 1048576: NARROWER than '..Said'. Prove '..Said' where nothing that the law and all that it calls make is longer than what came in: it says more and counts as full. Else prove '..UptoSaid'. A law counts once. -/
mutual
def uptoBulk {H : Type} : DataW H → Nat
  | .lit (.string bytes) => bytes.length + 1
  | .lit _ => 1
  | .nil => 1
  | .ptr d => uptoBulk d + 1
  | .slice elems spare => uptoBulkAll elems + uptoBulkAll spare + 1
  | .agg parts => uptoBulkAll parts + 1
  | .iface _ d => uptoBulk d + 1
  | .map entries => uptoBulkEntries entries + 1
  | .held _ => 1
def uptoBulkAll {H : Type} : List (DataW H) → Nat
  | [] => 0
  | d :: r => uptoBulk d + uptoBulkAll r
def uptoBulkEntries {H : Type} : List (Lit × DataW H) → Nat
  | [] => 0
  | x :: r => uptoBulkEntry x + uptoBulkEntries r
def uptoBulkEntry {H : Type} : Lit × DataW H → Nat
  | (.string bytes, d) => bytes.length + uptoBulk d + 1
  | (_, d) => uptoBulk d + 1
 end
def uptoSmall : (H : Type) → List (DataW H) → Bool := fun _ ds => decide (uptoBulkAll ds ≤ 1048576)
def OpenSpec.upto (s : _root_.Go.ChangeSpec) : _root_.Go.OpenSpec := { _root_.Go.OpenSpec.ofChange s with cond := some uptoSmall }

/-- 'liglaw7.ProofTells', WHERE WHAT IT READS IS OF BULK AT MOST 1048576: true; the input reads as it did. -/
def proofTellsUptoRow : OpenClaim := { program := "ythomoliklfmnkaadoor", sum := "66bb3050fc7b601b75507b42e35c594c29f21321a85abb2ea6dcd880b5653d45", func := "lighterman/liglaw7.ProofTells", spec := "proofTells", inPlace := ["internal/abi.NoEscape", "internal/bytealg.MakeNoZero"], unfollowed := true, recurses := true, named := ["lighterman/sha.steps"], plainKeys := false, apart := false, laid := [("lighterman/sha.steps", laid_lighterman_sha_steps)], narrowed := true }
def ProofTellsUptoSaid : Prop := proofTellsUptoRow.holds Tryd.pinned (OpenSpec.upto proofTellsSpec)

/-- 'liglaw7.ProofShows', WHERE WHAT IT READS IS OF BULK AT MOST 1048576: true; the input reads as it did. -/
def proofShowsUptoRow : OpenClaim := { program := "ythomoliklfmnkaadoor", sum := "66bb3050fc7b601b75507b42e35c594c29f21321a85abb2ea6dcd880b5653d45", func := "lighterman/liglaw7.ProofShows", spec := "proofShows", inPlace := ["internal/abi.NoEscape", "internal/bytealg.MakeNoZero"], unfollowed := true, recurses := true, named := ["lighterman/sha.steps"], plainKeys := false, apart := false, laid := [("lighterman/sha.steps", laid_lighterman_sha_steps)], narrowed := true }
def ProofShowsUptoSaid : Prop := proofShowsUptoRow.holds Tryd.pinned (OpenSpec.upto proofShowsSpec)

/-- 'liglaw7.ProofForged', WHERE WHAT IT READS IS OF BULK AT MOST 1048576: true; the input reads as it did. -/
def proofForgedUptoRow : OpenClaim := { program := "ythomoliklfmnkaadoor", sum := "66bb3050fc7b601b75507b42e35c594c29f21321a85abb2ea6dcd880b5653d45", func := "lighterman/liglaw7.ProofForged", spec := "proofForged", inPlace := ["internal/abi.NoEscape", "internal/bytealg.MakeNoZero"], unfollowed := true, recurses := true, named := ["lighterman/sha.steps"], plainKeys := false, apart := false, laid := [("lighterman/sha.steps", laid_lighterman_sha_steps)], narrowed := true }
def ProofForgedUptoSaid : Prop := proofForgedUptoRow.holds Tryd.pinned (OpenSpec.upto proofForgedSpec)

/-- 'liglaw12.StoreOrder', WHERE WHAT IT READS IS OF BULK AT MOST 1048576: true; the input reads as it did. -/
def storeOrderUptoRow : OpenClaim := { program := "ythomoliklfmnkaadoor", sum := "66bb3050fc7b601b75507b42e35c594c29f21321a85abb2ea6dcd880b5653d45", func := "lighterman/liglaw12.StoreOrder", spec := "storeOrder", inPlace := ["internal/bytealg.abigen_runtime_cmpstring", "slices.overlaps[lighterman/proof.Pair]", "internal/abi.NoEscape", "internal/bytealg.MakeNoZero"], unfollowed := true, recurses := true, named := ["lighterman/sha.steps"], plainKeys := false, apart := false, laid := [("lighterman/sha.steps", laid_lighterman_sha_steps)], narrowed := true }
def StoreOrderUptoSaid : Prop := storeOrderUptoRow.holds Tryd.pinned (OpenSpec.upto storeOrderSpec)

/-- 'liglaw12.StoreCopies', WHERE WHAT IT READS IS OF BULK AT MOST 1048576: true; the input reads as it did. -/
def storeCopiesUptoRow : OpenClaim := { program := "ythomoliklfmnkaadoor", sum := "66bb3050fc7b601b75507b42e35c594c29f21321a85abb2ea6dcd880b5653d45", func := "lighterman/liglaw12.StoreCopies", spec := "storeCopies", inPlace := ["internal/bytealg.abigen_runtime_cmpstring", "slices.overlaps[lighterman/proof.Pair]", "internal/abi.NoEscape", "internal/bytealg.MakeNoZero"], unfollowed := true, recurses := true, named := ["lighterman/sha.steps"], plainKeys := false, apart := false, laid := [("lighterman/sha.steps", laid_lighterman_sha_steps)], narrowed := true }
def StoreCopiesUptoSaid : Prop := storeCopiesUptoRow.holds Tryd.pinned (OpenSpec.upto storeCopiesSpec)

/-- 'liglaw12.StorePlays', WHERE WHAT IT READS IS OF BULK AT MOST 1048576: true; the input reads as it did. -/
def storePlaysUptoRow : OpenClaim := { program := "ythomoliklfmnkaadoor", sum := "66bb3050fc7b601b75507b42e35c594c29f21321a85abb2ea6dcd880b5653d45", func := "lighterman/liglaw12.StorePlays", spec := "storePlays", inPlace := ["internal/bytealg.abigen_runtime_cmpstring", "slices.overlaps[lighterman/proof.Pair]", "internal/abi.NoEscape", "internal/bytealg.MakeNoZero"], unfollowed := true, recurses := true, named := ["lighterman/sha.steps"], plainKeys := false, apart := false, laid := [("lighterman/sha.steps", laid_lighterman_sha_steps)], narrowed := true }
def StorePlaysUptoSaid : Prop := storePlaysUptoRow.holds Tryd.pinned (OpenSpec.upto storePlaysSpec)

/-- 'liglaw13.PastStays', WHERE WHAT IT READS IS OF BULK AT MOST 1048576: true; the input reads as it did. -/
def pastStaysUptoRow : OpenClaim := { program := "ythomoliklfmnkaadoor", sum := "66bb3050fc7b601b75507b42e35c594c29f21321a85abb2ea6dcd880b5653d45", func := "lighterman/liglaw13.PastStays", spec := "pastStays", inPlace := ["internal/abi.NoEscape", "internal/bytealg.MakeNoZero", "internal/bytealg.abigen_runtime_cmpstring", "slices.overlaps[lighterman/proof.Pair]"], unfollowed := true, recurses := true, named := ["lighterman/sha.steps"], plainKeys := false, apart := false, laid := [("lighterman/sha.steps", laid_lighterman_sha_steps)], narrowed := true }
def PastStaysUptoSaid : Prop := pastStaysUptoRow.holds Tryd.pinned (OpenSpec.upto pastStaysSpec)

/-- 'liglaw7.ProofBytes', WHERE WHAT IT READS IS OF BULK AT MOST 1048576: true; the input reads as it did. -/
def proofBytesUptoRow : OpenClaim := { program := "ythomoliklfmnkaadoor", sum := "66bb3050fc7b601b75507b42e35c594c29f21321a85abb2ea6dcd880b5653d45", func := "lighterman/liglaw7.ProofBytes", spec := "proofBytes", inPlace := ["internal/abi.NoEscape", "internal/bytealg.MakeNoZero"], unfollowed := true, recurses := true, named := ["lighterman/sha.steps"], plainKeys := false, apart := false, laid := [("lighterman/sha.steps", laid_lighterman_sha_steps)], narrowed := true }
def ProofBytesUptoSaid : Prop := proofBytesUptoRow.holds Tryd.pinned (OpenSpec.upto proofBytesSpec)

/-- 'liglaw12.StoreProves', WHERE WHAT IT READS IS OF BULK AT MOST 1048576: true; the input reads as it did. -/
def storeProvesUptoRow : OpenClaim := { program := "ythomoliklfmnkaadoor", sum := "66bb3050fc7b601b75507b42e35c594c29f21321a85abb2ea6dcd880b5653d45", func := "lighterman/liglaw12.StoreProves", spec := "storeProves", inPlace := ["internal/bytealg.abigen_runtime_cmpstring", "slices.overlaps[lighterman/proof.Pair]", "internal/abi.NoEscape", "internal/bytealg.MakeNoZero"], unfollowed := true, recurses := true, named := ["lighterman/sha.steps"], plainKeys := false, apart := false, laid := [("lighterman/sha.steps", laid_lighterman_sha_steps)], narrowed := true }
def StoreProvesUptoSaid : Prop := storeProvesUptoRow.holds Tryd.pinned (OpenSpec.upto storeProvesSpec)

/-- 'liglaw13.PastProves', WHERE WHAT IT READS IS OF BULK AT MOST 1048576: true; the input reads as it did. -/
def pastProvesUptoRow : OpenClaim := { program := "ythomoliklfmnkaadoor", sum := "66bb3050fc7b601b75507b42e35c594c29f21321a85abb2ea6dcd880b5653d45", func := "lighterman/liglaw13.PastProves", spec := "pastProves", inPlace := ["internal/abi.NoEscape", "internal/bytealg.MakeNoZero", "internal/bytealg.abigen_runtime_cmpstring", "slices.overlaps[lighterman/proof.Pair]"], unfollowed := true, recurses := true, named := ["lighterman/sha.steps"], plainKeys := false, apart := false, laid := [("lighterman/sha.steps", laid_lighterman_sha_steps)], narrowed := true }
def PastProvesUptoSaid : Prop := pastProvesUptoRow.holds Tryd.pinned (OpenSpec.upto pastProvesSpec)

end Rows
end Go.Proofs.YthomoliklfmnkaaDoor
