/-
  NARROWER THAN 'FOR EVERY INPUT', by the rows' own cells (each row's printed sentence says how): ShaCuts: laid · ShaTells: laid · ShaLess: laid · ShaHex: laid · FrameTurned: laid · FrameAll: laid · FrameTells: laid · PacketTells: laid · PacketBack: laid · TreeDeep: laid · TreeGrows: laid · TreeFolds: laid · TreeTells: laid.
  DERIVED. THE GIVEN ROWS OF THIS SEAT. 13 by the template 'for every input the law returns true; each argument reads behind the call as it read before'; 0 by the template 'total and deterministic' (their statements: YtophhppklaofaaaDoorTotals.lean).
  GIVEN WITH THE SEED: the statements are not yours to turn. If you find one false, say at which input.
  Laid BY PROGRAM, IN A SANDBOX (cutbox-rows.mjs): the forced cells as the released guide's own fill.sh prints them over the translation d1ac8baf7a55a53b… (all of the seat's roots in one cut). By AI agents, Wed Nov 11 2026. No macro, syntax, notation, axiom, sorry.
-/
import Derived.Test.YtophhppklaofaaaDoorChecked
import GoSem.Claim
import GoSem.ClaimJoined
import GoSem.ClaimMapViews
import Derived.JoinedTies
import Derived.KernelRfl
namespace Go.Proofs.YtophhppklaofaaaDoor
/- THE CELL 'sum', in the pinned program and in every row, IS THE sha256 OF THE DUMP (.gsa) THAT YtophhppklaofaaaDoorProg.lean LOADS. Nothing in Lean hashes anything: it is a label: what it is worth is what the hold of that sum in a sandbox is worth. -/
noncomputable def Tryd.pinned : Pinned := { name := "ytophhppklaofaaadoor", sum := "d1ac8baf7a55a53b65fda2f4b2b5c75c278077661b3a52719c322249dcb11214", checked := Tryd.checked }
namespace Rows
def none {H : Type} : Left H := { results := [], args := [] }

/- WHAT THE LISTED PACKAGE-LEVEL VARIABLES READ AS WHEN THE CALL BEGINS. Each datum BY PROGRAM (the guide's laid-datum.mjs) off the statement by which the dump's own 'gosem.cut.vars' lays the variable. In a bare row this is a premise. The card (YtophhppklaofaaaDoorCards.lean) ties it to the program's text. -/
def laid_lighterman_sha_steps {H : Type} : DataW H := .agg [.lit (.int .u32 1116352408), .lit (.int .u32 1899447441), .lit (.int .u32 3049323471), .lit (.int .u32 3921009573), .lit (.int .u32 961987163), .lit (.int .u32 1508970993), .lit (.int .u32 2453635748), .lit (.int .u32 2870763221), .lit (.int .u32 3624381080), .lit (.int .u32 310598401), .lit (.int .u32 607225278), .lit (.int .u32 1426881987), .lit (.int .u32 1925078388), .lit (.int .u32 2162078206), .lit (.int .u32 2614888103), .lit (.int .u32 3248222580), .lit (.int .u32 3835390401), .lit (.int .u32 4022224774), .lit (.int .u32 264347078), .lit (.int .u32 604807628), .lit (.int .u32 770255983), .lit (.int .u32 1249150122), .lit (.int .u32 1555081692), .lit (.int .u32 1996064986), .lit (.int .u32 2554220882), .lit (.int .u32 2821834349), .lit (.int .u32 2952996808), .lit (.int .u32 3210313671), .lit (.int .u32 3336571891), .lit (.int .u32 3584528711), .lit (.int .u32 113926993), .lit (.int .u32 338241895), .lit (.int .u32 666307205), .lit (.int .u32 773529912), .lit (.int .u32 1294757372), .lit (.int .u32 1396182291), .lit (.int .u32 1695183700), .lit (.int .u32 1986661051), .lit (.int .u32 2177026350), .lit (.int .u32 2456956037), .lit (.int .u32 2730485921), .lit (.int .u32 2820302411), .lit (.int .u32 3259730800), .lit (.int .u32 3345764771), .lit (.int .u32 3516065817), .lit (.int .u32 3600352804), .lit (.int .u32 4094571909), .lit (.int .u32 275423344), .lit (.int .u32 430227734), .lit (.int .u32 506948616), .lit (.int .u32 659060556), .lit (.int .u32 883997877), .lit (.int .u32 958139571), .lit (.int .u32 1322822218), .lit (.int .u32 1537002063), .lit (.int .u32 1747873779), .lit (.int .u32 1955562222), .lit (.int .u32 2024104815), .lit (.int .u32 2227730452), .lit (.int .u32 2361852424), .lit (.int .u32 2428436474), .lit (.int .u32 2756734187), .lit (.int .u32 3204031479), .lit (.int .u32 3329325298)]

/-- 'liglaw2.ShaCuts': WHATEVER THE INPUT: true; the input reads as it did. -/
def shaCutsSpec : ChangeSpec := { name := "shaCuts", fn := fun _ => fun
  | [d1, d2, d3] => { results := [.lit (.bool true)], args := [d1, d2, d3] }
  | _ => none }
def shaCutsRow : OpenClaim := { program := "ytophhppklaofaaadoor", sum := "d1ac8baf7a55a53b65fda2f4b2b5c75c278077661b3a52719c322249dcb11214", func := "lighterman/liglaw2.ShaCuts", spec := "shaCuts", inPlace := ["internal/abi.NoEscape", "internal/bytealg.MakeNoZero"], named := ["lighterman/sha.steps"], apart := false, laid := [("lighterman/sha.steps", laid_lighterman_sha_steps)] }
def ShaCutsSaid : Prop := shaCutsRow.holds Tryd.pinned (OpenSpec.ofChange shaCutsSpec)

/-- ITS FALSE NEIGHBOUR: 'it returns false'. Refute it at one input. -/
def shaCutsWrong : ChangeSpec := { name := "shaCuts", fn := fun _ => fun
  | [d1, d2, d3] => { results := [.lit (.bool false)], args := [d1, d2, d3] }
  | _ => none }
def ShaCutsWrongFalsely : Prop := shaCutsRow.holds Tryd.pinned (OpenSpec.ofChange shaCutsWrong)

/-- 'liglaw2.ShaTells': WHATEVER THE INPUT: true; the input reads as it did. -/
def shaTellsSpec : ChangeSpec := { name := "shaTells", fn := fun _ => fun
  | [d] => { results := [.lit (.bool true)], args := [d] }
  | _ => none }
def shaTellsRow : OpenClaim := { program := "ytophhppklaofaaadoor", sum := "d1ac8baf7a55a53b65fda2f4b2b5c75c278077661b3a52719c322249dcb11214", func := "lighterman/liglaw2.ShaTells", spec := "shaTells", inPlace := ["internal/abi.NoEscape", "internal/bytealg.MakeNoZero"], named := ["lighterman/sha.steps"], apart := false, laid := [("lighterman/sha.steps", laid_lighterman_sha_steps)] }
def ShaTellsSaid : Prop := shaTellsRow.holds Tryd.pinned (OpenSpec.ofChange shaTellsSpec)

/-- ITS FALSE NEIGHBOUR: 'it returns false'. Refute it at one input. -/
def shaTellsWrong : ChangeSpec := { name := "shaTells", fn := fun _ => fun
  | [d] => { results := [.lit (.bool false)], args := [d] }
  | _ => none }
def ShaTellsWrongFalsely : Prop := shaTellsRow.holds Tryd.pinned (OpenSpec.ofChange shaTellsWrong)

/-- 'liglaw2.ShaLess': WHATEVER THE INPUT: true; the input reads as it did. -/
def shaLessSpec : ChangeSpec := { name := "shaLess", fn := fun _ => fun
  | [d1, d2, d3] => { results := [.lit (.bool true)], args := [d1, d2, d3] }
  | _ => none }
def shaLessRow : OpenClaim := { program := "ytophhppklaofaaadoor", sum := "d1ac8baf7a55a53b65fda2f4b2b5c75c278077661b3a52719c322249dcb11214", func := "lighterman/liglaw2.ShaLess", spec := "shaLess", inPlace := ["internal/abi.NoEscape", "internal/bytealg.MakeNoZero", "internal/bytealg.Compare"], named := ["lighterman/sha.steps"], apart := false, laid := [("lighterman/sha.steps", laid_lighterman_sha_steps)] }
def ShaLessSaid : Prop := shaLessRow.holds Tryd.pinned (OpenSpec.ofChange shaLessSpec)

/-- ITS FALSE NEIGHBOUR: 'it returns false'. Refute it at one input. -/
def shaLessWrong : ChangeSpec := { name := "shaLess", fn := fun _ => fun
  | [d1, d2, d3] => { results := [.lit (.bool false)], args := [d1, d2, d3] }
  | _ => none }
def ShaLessWrongFalsely : Prop := shaLessRow.holds Tryd.pinned (OpenSpec.ofChange shaLessWrong)

/-- 'liglaw2.ShaHex': WHATEVER THE INPUT: true; the input reads as it did. -/
def shaHexSpec : ChangeSpec := { name := "shaHex", fn := fun _ => fun
  | [d1, d2] => { results := [.lit (.bool true)], args := [d1, d2] }
  | _ => none }
def shaHexRow : OpenClaim := { program := "ytophhppklaofaaadoor", sum := "d1ac8baf7a55a53b65fda2f4b2b5c75c278077661b3a52719c322249dcb11214", func := "lighterman/liglaw2.ShaHex", spec := "shaHex", inPlace := ["internal/abi.NoEscape", "internal/bytealg.MakeNoZero", "internal/bytealg.IndexByteString"], named := ["lighterman/sha.steps"], apart := false, laid := [("lighterman/sha.steps", laid_lighterman_sha_steps)] }
def ShaHexSaid : Prop := shaHexRow.holds Tryd.pinned (OpenSpec.ofChange shaHexSpec)

/-- ITS FALSE NEIGHBOUR: 'it returns false'. Refute it at one input. -/
def shaHexWrong : ChangeSpec := { name := "shaHex", fn := fun _ => fun
  | [d1, d2] => { results := [.lit (.bool false)], args := [d1, d2] }
  | _ => none }
def ShaHexWrongFalsely : Prop := shaHexRow.holds Tryd.pinned (OpenSpec.ofChange shaHexWrong)

/-- 'liglaw11.FrameTurned': WHATEVER THE INPUT: true; the input reads as it did. -/
def frameTurnedSpec : ChangeSpec := { name := "frameTurned", fn := fun _ => fun
  | [d1, d2, d3, d4, d5] => { results := [.lit (.bool true)], args := [d1, d2, d3, d4, d5] }
  | _ => none }
def frameTurnedRow : OpenClaim := { program := "ytophhppklaofaaadoor", sum := "d1ac8baf7a55a53b65fda2f4b2b5c75c278077661b3a52719c322249dcb11214", func := "lighterman/liglaw11.FrameTurned", spec := "frameTurned", inPlace := ["internal/abi.NoEscape", "internal/bytealg.MakeNoZero"], named := ["lighterman/sha.steps"], apart := false, laid := [("lighterman/sha.steps", laid_lighterman_sha_steps)] }
def FrameTurnedSaid : Prop := frameTurnedRow.holds Tryd.pinned (OpenSpec.ofChange frameTurnedSpec)

/-- ITS FALSE NEIGHBOUR: 'it returns false'. Refute it at one input. -/
def frameTurnedWrong : ChangeSpec := { name := "frameTurned", fn := fun _ => fun
  | [d1, d2, d3, d4, d5] => { results := [.lit (.bool false)], args := [d1, d2, d3, d4, d5] }
  | _ => none }
def FrameTurnedWrongFalsely : Prop := frameTurnedRow.holds Tryd.pinned (OpenSpec.ofChange frameTurnedWrong)

/-- 'liglaw11.FrameAll': WHATEVER THE INPUT: true; the input reads as it did. -/
def frameAllSpec : ChangeSpec := { name := "frameAll", fn := fun _ => fun
  | [d1, d2] => { results := [.lit (.bool true)], args := [d1, d2] }
  | _ => none }
def frameAllRow : OpenClaim := { program := "ytophhppklaofaaadoor", sum := "d1ac8baf7a55a53b65fda2f4b2b5c75c278077661b3a52719c322249dcb11214", func := "lighterman/liglaw11.FrameAll", spec := "frameAll", inPlace := ["internal/abi.NoEscape", "internal/bytealg.MakeNoZero"], named := ["lighterman/sha.steps"], apart := false, laid := [("lighterman/sha.steps", laid_lighterman_sha_steps)] }
def FrameAllSaid : Prop := frameAllRow.holds Tryd.pinned (OpenSpec.ofChange frameAllSpec)

/-- ITS FALSE NEIGHBOUR: 'it returns false'. Refute it at one input. -/
def frameAllWrong : ChangeSpec := { name := "frameAll", fn := fun _ => fun
  | [d1, d2] => { results := [.lit (.bool false)], args := [d1, d2] }
  | _ => none }
def FrameAllWrongFalsely : Prop := frameAllRow.holds Tryd.pinned (OpenSpec.ofChange frameAllWrong)

/-- 'liglaw11.FrameTells': WHATEVER THE INPUT: true; the input reads as it did. -/
def frameTellsSpec : ChangeSpec := { name := "frameTells", fn := fun _ => fun
  | [d1, d2, d3] => { results := [.lit (.bool true)], args := [d1, d2, d3] }
  | _ => none }
def frameTellsRow : OpenClaim := { program := "ytophhppklaofaaadoor", sum := "d1ac8baf7a55a53b65fda2f4b2b5c75c278077661b3a52719c322249dcb11214", func := "lighterman/liglaw11.FrameTells", spec := "frameTells", inPlace := ["internal/abi.NoEscape", "internal/bytealg.MakeNoZero"], named := ["lighterman/sha.steps"], apart := false, laid := [("lighterman/sha.steps", laid_lighterman_sha_steps)] }
def FrameTellsSaid : Prop := frameTellsRow.holds Tryd.pinned (OpenSpec.ofChange frameTellsSpec)

/-- ITS FALSE NEIGHBOUR: 'it returns false'. Refute it at one input. -/
def frameTellsWrong : ChangeSpec := { name := "frameTells", fn := fun _ => fun
  | [d1, d2, d3] => { results := [.lit (.bool false)], args := [d1, d2, d3] }
  | _ => none }
def FrameTellsWrongFalsely : Prop := frameTellsRow.holds Tryd.pinned (OpenSpec.ofChange frameTellsWrong)

/-- 'liglaw5.PacketTells': WHATEVER THE INPUT: true; the input reads as it did. -/
def packetTellsSpec : ChangeSpec := { name := "packetTells", fn := fun _ => fun
  | [d1, d2, d3, d4, d5] => { results := [.lit (.bool true)], args := [d1, d2, d3, d4, d5] }
  | _ => none }
def packetTellsRow : OpenClaim := { program := "ytophhppklaofaaadoor", sum := "d1ac8baf7a55a53b65fda2f4b2b5c75c278077661b3a52719c322249dcb11214", func := "lighterman/liglaw5.PacketTells", spec := "packetTells", inPlace := ["internal/abi.NoEscape", "internal/bytealg.MakeNoZero"], named := ["lighterman/sha.steps"], apart := false, laid := [("lighterman/sha.steps", laid_lighterman_sha_steps)] }
def PacketTellsSaid : Prop := packetTellsRow.holds Tryd.pinned (OpenSpec.ofChange packetTellsSpec)

/-- ITS FALSE NEIGHBOUR: 'it returns false'. Refute it at one input. -/
def packetTellsWrong : ChangeSpec := { name := "packetTells", fn := fun _ => fun
  | [d1, d2, d3, d4, d5] => { results := [.lit (.bool false)], args := [d1, d2, d3, d4, d5] }
  | _ => none }
def PacketTellsWrongFalsely : Prop := packetTellsRow.holds Tryd.pinned (OpenSpec.ofChange packetTellsWrong)

/-- 'liglaw5.PacketBack': WHATEVER THE INPUT: true; the input reads as it did. -/
def packetBackSpec : ChangeSpec := { name := "packetBack", fn := fun _ => fun
  | [d1, d2] => { results := [.lit (.bool true)], args := [d1, d2] }
  | _ => none }
def packetBackRow : OpenClaim := { program := "ytophhppklaofaaadoor", sum := "d1ac8baf7a55a53b65fda2f4b2b5c75c278077661b3a52719c322249dcb11214", func := "lighterman/liglaw5.PacketBack", spec := "packetBack", inPlace := ["internal/abi.NoEscape", "internal/bytealg.MakeNoZero"], named := ["lighterman/sha.steps"], apart := false, laid := [("lighterman/sha.steps", laid_lighterman_sha_steps)] }
def PacketBackSaid : Prop := packetBackRow.holds Tryd.pinned (OpenSpec.ofChange packetBackSpec)

/-- ITS FALSE NEIGHBOUR: 'it returns false'. Refute it at one input. -/
def packetBackWrong : ChangeSpec := { name := "packetBack", fn := fun _ => fun
  | [d1, d2] => { results := [.lit (.bool false)], args := [d1, d2] }
  | _ => none }
def PacketBackWrongFalsely : Prop := packetBackRow.holds Tryd.pinned (OpenSpec.ofChange packetBackWrong)

/-- 'liglaw6.TreeDeep': WHATEVER THE INPUT: true; the input reads as it did. -/
def treeDeepSpec : ChangeSpec := { name := "treeDeep", fn := fun _ => fun
  | [d1, d2] => { results := [.lit (.bool true)], args := [d1, d2] }
  | _ => none }
def treeDeepRow : OpenClaim := { program := "ytophhppklaofaaadoor", sum := "d1ac8baf7a55a53b65fda2f4b2b5c75c278077661b3a52719c322249dcb11214", func := "lighterman/liglaw6.TreeDeep", spec := "treeDeep", inPlace := ["internal/abi.NoEscape", "internal/bytealg.MakeNoZero"], named := ["lighterman/sha.steps"], apart := false, laid := [("lighterman/sha.steps", laid_lighterman_sha_steps)] }
def TreeDeepSaid : Prop := treeDeepRow.holds Tryd.pinned (OpenSpec.ofChange treeDeepSpec)

/-- ITS FALSE NEIGHBOUR: 'it returns false'. Refute it at one input. -/
def treeDeepWrong : ChangeSpec := { name := "treeDeep", fn := fun _ => fun
  | [d1, d2] => { results := [.lit (.bool false)], args := [d1, d2] }
  | _ => none }
def TreeDeepWrongFalsely : Prop := treeDeepRow.holds Tryd.pinned (OpenSpec.ofChange treeDeepWrong)

/-- 'liglaw6.TreeGrows': WHATEVER THE INPUT: true; the input reads as it did. -/
def treeGrowsSpec : ChangeSpec := { name := "treeGrows", fn := fun _ => fun
  | [d] => { results := [.lit (.bool true)], args := [d] }
  | _ => none }
def treeGrowsRow : OpenClaim := { program := "ytophhppklaofaaadoor", sum := "d1ac8baf7a55a53b65fda2f4b2b5c75c278077661b3a52719c322249dcb11214", func := "lighterman/liglaw6.TreeGrows", spec := "treeGrows", inPlace := ["internal/abi.NoEscape", "internal/bytealg.MakeNoZero"], recurses := true, named := ["lighterman/sha.steps"], apart := false, laid := [("lighterman/sha.steps", laid_lighterman_sha_steps)] }
def TreeGrowsSaid : Prop := treeGrowsRow.holds Tryd.pinned (OpenSpec.ofChange treeGrowsSpec)

/-- ITS FALSE NEIGHBOUR: 'it returns false'. Refute it at one input. -/
def treeGrowsWrong : ChangeSpec := { name := "treeGrows", fn := fun _ => fun
  | [d] => { results := [.lit (.bool false)], args := [d] }
  | _ => none }
def TreeGrowsWrongFalsely : Prop := treeGrowsRow.holds Tryd.pinned (OpenSpec.ofChange treeGrowsWrong)

/-- 'liglaw6.TreeFolds': WHATEVER THE INPUT: true; the input reads as it did. -/
def treeFoldsSpec : ChangeSpec := { name := "treeFolds", fn := fun _ => fun
  | [d1, d2, d3] => { results := [.lit (.bool true)], args := [d1, d2, d3] }
  | _ => none }
def treeFoldsRow : OpenClaim := { program := "ytophhppklaofaaadoor", sum := "d1ac8baf7a55a53b65fda2f4b2b5c75c278077661b3a52719c322249dcb11214", func := "lighterman/liglaw6.TreeFolds", spec := "treeFolds", inPlace := ["internal/abi.NoEscape", "internal/bytealg.MakeNoZero"], recurses := true, named := ["lighterman/sha.steps"], apart := false, laid := [("lighterman/sha.steps", laid_lighterman_sha_steps)] }
def TreeFoldsSaid : Prop := treeFoldsRow.holds Tryd.pinned (OpenSpec.ofChange treeFoldsSpec)

/-- ITS FALSE NEIGHBOUR: 'it returns false'. Refute it at one input. -/
def treeFoldsWrong : ChangeSpec := { name := "treeFolds", fn := fun _ => fun
  | [d1, d2, d3] => { results := [.lit (.bool false)], args := [d1, d2, d3] }
  | _ => none }
def TreeFoldsWrongFalsely : Prop := treeFoldsRow.holds Tryd.pinned (OpenSpec.ofChange treeFoldsWrong)

/-- 'liglaw6.TreeTells': WHATEVER THE INPUT: true; the input reads as it did. -/
def treeTellsSpec : ChangeSpec := { name := "treeTells", fn := fun _ => fun
  | [d1, d2, d3, d4, d5, d6] => { results := [.lit (.bool true)], args := [d1, d2, d3, d4, d5, d6] }
  | _ => none }
def treeTellsRow : OpenClaim := { program := "ytophhppklaofaaadoor", sum := "d1ac8baf7a55a53b65fda2f4b2b5c75c278077661b3a52719c322249dcb11214", func := "lighterman/liglaw6.TreeTells", spec := "treeTells", inPlace := ["internal/abi.NoEscape", "internal/bytealg.MakeNoZero"], recurses := true, named := ["lighterman/sha.steps"], apart := false, laid := [("lighterman/sha.steps", laid_lighterman_sha_steps)] }
def TreeTellsSaid : Prop := treeTellsRow.holds Tryd.pinned (OpenSpec.ofChange treeTellsSpec)

/-- ITS FALSE NEIGHBOUR: 'it returns false'. Refute it at one input. -/
def treeTellsWrong : ChangeSpec := { name := "treeTells", fn := fun _ => fun
  | [d1, d2, d3, d4, d5, d6] => { results := [.lit (.bool false)], args := [d1, d2, d3, d4, d5, d6] }
  | _ => none }
def TreeTellsWrongFalsely : Prop := treeTellsRow.holds Tryd.pinned (OpenSpec.ofChange treeTellsWrong)

/- THE SECOND FORM. 'bulk': how many values and letters a reading holds, each counted each time it is reached (what is shared counts as often as it is met; a slice's spare places count too). A statement '..UptoSaid' is the law's where the arguments, and the package variables that the reading takes, are together of bulk at most 1048576: NARROWER than '..Said'. Prove '..Said' where nothing that the law and all that it calls make is longer than what came in: it says more and counts as full. Else prove '..UptoSaid'. A law counts once. -/
mutual
def uptoBulk {H : Type} : DataW H → Nat
  | .lit (.string bytes) => bytes.length + 1
  | .lit _ => 1
  | .nil => 1
  | .ptr d => uptoBulk d + 1
  | .slice elems spare => uptoBulkAll elems + uptoBulkAll spare + 1
  | .agg parts => uptoBulkAll parts + 1
  | .iface _ d => uptoBulk d + 1
  | .map entries => uptoBulkEntries entries + 1
  | .held _ => 1
def uptoBulkAll {H : Type} : List (DataW H) → Nat
  | [] => 0
  | d :: r => uptoBulk d + uptoBulkAll r
def uptoBulkEntries {H : Type} : List (Lit × DataW H) → Nat
  | [] => 0
  | x :: r => uptoBulkEntry x + uptoBulkEntries r
def uptoBulkEntry {H : Type} : Lit × DataW H → Nat
  | (.string bytes, d) => bytes.length + uptoBulk d + 1
  | (_, d) => uptoBulk d + 1
 end
def uptoSmall : (H : Type) → List (DataW H) → Bool := fun _ ds => decide (uptoBulkAll ds ≤ 1048576)
def OpenSpec.upto (s : _root_.Go.ChangeSpec) : _root_.Go.OpenSpec := { _root_.Go.OpenSpec.ofChange s with cond := some uptoSmall }

/-- 'liglaw2.ShaCuts', WHERE WHAT IT READS IS OF BULK AT MOST 1048576: true; the input reads as it did. -/
def shaCutsUptoRow : OpenClaim := { program := "ytophhppklaofaaadoor", sum := "d1ac8baf7a55a53b65fda2f4b2b5c75c278077661b3a52719c322249dcb11214", func := "lighterman/liglaw2.ShaCuts", spec := "shaCuts", inPlace := ["internal/abi.NoEscape", "internal/bytealg.MakeNoZero"], named := ["lighterman/sha.steps"], apart := false, laid := [("lighterman/sha.steps", laid_lighterman_sha_steps)], narrowed := true }
def ShaCutsUptoSaid : Prop := shaCutsUptoRow.holds Tryd.pinned (OpenSpec.upto shaCutsSpec)

/-- 'liglaw2.ShaTells', WHERE WHAT IT READS IS OF BULK AT MOST 1048576: true; the input reads as it did. -/
def shaTellsUptoRow : OpenClaim := { program := "ytophhppklaofaaadoor", sum := "d1ac8baf7a55a53b65fda2f4b2b5c75c278077661b3a52719c322249dcb11214", func := "lighterman/liglaw2.ShaTells", spec := "shaTells", inPlace := ["internal/abi.NoEscape", "internal/bytealg.MakeNoZero"], named := ["lighterman/sha.steps"], apart := false, laid := [("lighterman/sha.steps", laid_lighterman_sha_steps)], narrowed := true }
def ShaTellsUptoSaid : Prop := shaTellsUptoRow.holds Tryd.pinned (OpenSpec.upto shaTellsSpec)

/-- 'liglaw2.ShaLess', WHERE WHAT IT READS IS OF BULK AT MOST 1048576: true; the input reads as it did. -/
def shaLessUptoRow : OpenClaim := { program := "ytophhppklaofaaadoor", sum := "d1ac8baf7a55a53b65fda2f4b2b5c75c278077661b3a52719c322249dcb11214", func := "lighterman/liglaw2.ShaLess", spec := "shaLess", inPlace := ["internal/abi.NoEscape", "internal/bytealg.MakeNoZero", "internal/bytealg.Compare"], named := ["lighterman/sha.steps"], apart := false, laid := [("lighterman/sha.steps", laid_lighterman_sha_steps)], narrowed := true }
def ShaLessUptoSaid : Prop := shaLessUptoRow.holds Tryd.pinned (OpenSpec.upto shaLessSpec)

/-- 'liglaw2.ShaHex', WHERE WHAT IT READS IS OF BULK AT MOST 1048576: true; the input reads as it did. -/
def shaHexUptoRow : OpenClaim := { program := "ytophhppklaofaaadoor", sum := "d1ac8baf7a55a53b65fda2f4b2b5c75c278077661b3a52719c322249dcb11214", func := "lighterman/liglaw2.ShaHex", spec := "shaHex", inPlace := ["internal/abi.NoEscape", "internal/bytealg.MakeNoZero", "internal/bytealg.IndexByteString"], named := ["lighterman/sha.steps"], apart := false, laid := [("lighterman/sha.steps", laid_lighterman_sha_steps)], narrowed := true }
def ShaHexUptoSaid : Prop := shaHexUptoRow.holds Tryd.pinned (OpenSpec.upto shaHexSpec)

/-- 'liglaw11.FrameTurned', WHERE WHAT IT READS IS OF BULK AT MOST 1048576: true; the input reads as it did. -/
def frameTurnedUptoRow : OpenClaim := { program := "ytophhppklaofaaadoor", sum := "d1ac8baf7a55a53b65fda2f4b2b5c75c278077661b3a52719c322249dcb11214", func := "lighterman/liglaw11.FrameTurned", spec := "frameTurned", inPlace := ["internal/abi.NoEscape", "internal/bytealg.MakeNoZero"], named := ["lighterman/sha.steps"], apart := false, laid := [("lighterman/sha.steps", laid_lighterman_sha_steps)], narrowed := true }
def FrameTurnedUptoSaid : Prop := frameTurnedUptoRow.holds Tryd.pinned (OpenSpec.upto frameTurnedSpec)

/-- 'liglaw11.FrameAll', WHERE WHAT IT READS IS OF BULK AT MOST 1048576: true; the input reads as it did. -/
def frameAllUptoRow : OpenClaim := { program := "ytophhppklaofaaadoor", sum := "d1ac8baf7a55a53b65fda2f4b2b5c75c278077661b3a52719c322249dcb11214", func := "lighterman/liglaw11.FrameAll", spec := "frameAll", inPlace := ["internal/abi.NoEscape", "internal/bytealg.MakeNoZero"], named := ["lighterman/sha.steps"], apart := false, laid := [("lighterman/sha.steps", laid_lighterman_sha_steps)], narrowed := true }
def FrameAllUptoSaid : Prop := frameAllUptoRow.holds Tryd.pinned (OpenSpec.upto frameAllSpec)

/-- 'liglaw11.FrameTells', WHERE WHAT IT READS IS OF BULK AT MOST 1048576: true; the input reads as it did. -/
def frameTellsUptoRow : OpenClaim := { program := "ytophhppklaofaaadoor", sum := "d1ac8baf7a55a53b65fda2f4b2b5c75c278077661b3a52719c322249dcb11214", func := "lighterman/liglaw11.FrameTells", spec := "frameTells", inPlace := ["internal/abi.NoEscape", "internal/bytealg.MakeNoZero"], named := ["lighterman/sha.steps"], apart := false, laid := [("lighterman/sha.steps", laid_lighterman_sha_steps)], narrowed := true }
def FrameTellsUptoSaid : Prop := frameTellsUptoRow.holds Tryd.pinned (OpenSpec.upto frameTellsSpec)

/-- 'liglaw5.PacketTells', WHERE WHAT IT READS IS OF BULK AT MOST 1048576: true; the input reads as it did. -/
def packetTellsUptoRow : OpenClaim := { program := "ytophhppklaofaaadoor", sum := "d1ac8baf7a55a53b65fda2f4b2b5c75c278077661b3a52719c322249dcb11214", func := "lighterman/liglaw5.PacketTells", spec := "packetTells", inPlace := ["internal/abi.NoEscape", "internal/bytealg.MakeNoZero"], named := ["lighterman/sha.steps"], apart := false, laid := [("lighterman/sha.steps", laid_lighterman_sha_steps)], narrowed := true }
def PacketTellsUptoSaid : Prop := packetTellsUptoRow.holds Tryd.pinned (OpenSpec.upto packetTellsSpec)

/-- 'liglaw5.PacketBack', WHERE WHAT IT READS IS OF BULK AT MOST 1048576: true; the input reads as it did. -/
def packetBackUptoRow : OpenClaim := { program := "ytophhppklaofaaadoor", sum := "d1ac8baf7a55a53b65fda2f4b2b5c75c278077661b3a52719c322249dcb11214", func := "lighterman/liglaw5.PacketBack", spec := "packetBack", inPlace := ["internal/abi.NoEscape", "internal/bytealg.MakeNoZero"], named := ["lighterman/sha.steps"], apart := false, laid := [("lighterman/sha.steps", laid_lighterman_sha_steps)], narrowed := true }
def PacketBackUptoSaid : Prop := packetBackUptoRow.holds Tryd.pinned (OpenSpec.upto packetBackSpec)

/-- 'liglaw6.TreeDeep', WHERE WHAT IT READS IS OF BULK AT MOST 1048576: true; the input reads as it did. -/
def treeDeepUptoRow : OpenClaim := { program := "ytophhppklaofaaadoor", sum := "d1ac8baf7a55a53b65fda2f4b2b5c75c278077661b3a52719c322249dcb11214", func := "lighterman/liglaw6.TreeDeep", spec := "treeDeep", inPlace := ["internal/abi.NoEscape", "internal/bytealg.MakeNoZero"], named := ["lighterman/sha.steps"], apart := false, laid := [("lighterman/sha.steps", laid_lighterman_sha_steps)], narrowed := true }
def TreeDeepUptoSaid : Prop := treeDeepUptoRow.holds Tryd.pinned (OpenSpec.upto treeDeepSpec)

/-- 'liglaw6.TreeGrows', WHERE WHAT IT READS IS OF BULK AT MOST 1048576: true; the input reads as it did. -/
def treeGrowsUptoRow : OpenClaim := { program := "ytophhppklaofaaadoor", sum := "d1ac8baf7a55a53b65fda2f4b2b5c75c278077661b3a52719c322249dcb11214", func := "lighterman/liglaw6.TreeGrows", spec := "treeGrows", inPlace := ["internal/abi.NoEscape", "internal/bytealg.MakeNoZero"], recurses := true, named := ["lighterman/sha.steps"], apart := false, laid := [("lighterman/sha.steps", laid_lighterman_sha_steps)], narrowed := true }
def TreeGrowsUptoSaid : Prop := treeGrowsUptoRow.holds Tryd.pinned (OpenSpec.upto treeGrowsSpec)

/-- 'liglaw6.TreeFolds', WHERE WHAT IT READS IS OF BULK AT MOST 1048576: true; the input reads as it did. -/
def treeFoldsUptoRow : OpenClaim := { program := "ytophhppklaofaaadoor", sum := "d1ac8baf7a55a53b65fda2f4b2b5c75c278077661b3a52719c322249dcb11214", func := "lighterman/liglaw6.TreeFolds", spec := "treeFolds", inPlace := ["internal/abi.NoEscape", "internal/bytealg.MakeNoZero"], recurses := true, named := ["lighterman/sha.steps"], apart := false, laid := [("lighterman/sha.steps", laid_lighterman_sha_steps)], narrowed := true }
def TreeFoldsUptoSaid : Prop := treeFoldsUptoRow.holds Tryd.pinned (OpenSpec.upto treeFoldsSpec)

/-- 'liglaw6.TreeTells', WHERE WHAT IT READS IS OF BULK AT MOST 1048576: true; the input reads as it did. -/
def treeTellsUptoRow : OpenClaim := { program := "ytophhppklaofaaadoor", sum := "d1ac8baf7a55a53b65fda2f4b2b5c75c278077661b3a52719c322249dcb11214", func := "lighterman/liglaw6.TreeTells", spec := "treeTells", inPlace := ["internal/abi.NoEscape", "internal/bytealg.MakeNoZero"], recurses := true, named := ["lighterman/sha.steps"], apart := false, laid := [("lighterman/sha.steps", laid_lighterman_sha_steps)], narrowed := true }
def TreeTellsUptoSaid : Prop := treeTellsUptoRow.holds Tryd.pinned (OpenSpec.upto treeTellsSpec)

end Rows
end Go.Proofs.YtophhppklaofaaaDoor
