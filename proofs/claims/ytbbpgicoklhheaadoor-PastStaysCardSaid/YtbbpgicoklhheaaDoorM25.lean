/- Proofs as data that hold data: their cells; sizes, steps, by the walker. -/
import Derived.Test.YtbbpgicoklhheaaDoorVxFrame
import Derived.Test.YtbbpgicoklhheaaDoorVxFlat
import Derived.Test.YtbbpgicoklhheaaDoorVxLive
import Derived.Test.YtbbpgicoklhheaaDoorRows
import Derived.Test.YtbbpgicoklhheaaDoorM7
section
namespace Go.Proofs.YtbbpgicoklhheaaDoor.Vx
open Go.RowKit
set_option linter.unusedVariables false
set_option linter.unusedSimpArgs false
/-- A leaf of a proof; the sums beside it by their 32 numbers. -/
structure PLeaf where
  k : List UInt8
  v : List UInt8
  i : Int
  p : List (List Int)
deriving DecidableEq
def PLeaf.none : PLeaf := ⟨[], [], 0, []⟩
def lK (l : List PLeaf) (i : Nat) : List UInt8 := (l.getD i .none).k
def lV (l : List PLeaf) (i : Nat) : List UInt8 := (l.getD i .none).v
def lI (l : List PLeaf) (i : Nat) : Int := (l.getD i .none).i
def lP (l : List PLeaf) (i : Nat) : List (List Int) := (l.getD i .none).p
def lN (l : List PLeaf) (i : Nat) : Nat := (lP l i).length
/-- The cells of a sum. -/
def h32 (f : Nat → Int) : List CV := [.int .u8 (f 0), .int .u8 (f 1), .int .u8 (f 2), .int .u8 (f 3), .int .u8 (f 4), .int .u8 (f 5), .int .u8 (f 6), .int .u8 (f 7), .int .u8 (f 8), .int .u8 (f 9), .int .u8 (f 10), .int .u8 (f 11), .int .u8 (f 12), .int .u8 (f 13), .int .u8 (f 14), .int .u8 (f 15), .int .u8 (f 16), .int .u8 (f 17), .int .u8 (f 18), .int .u8 (f 19), .int .u8 (f 20), .int .u8 (f 21), .int .u8 (f 22), .int .u8 (f 23), .int .u8 (f 24), .int .u8 (f 25), .int .u8 (f 26), .int .u8 (f 27), .int .u8 (f 28), .int .u8 (f 29), .int .u8 (f 30), .int .u8 (f 31)]
def pG (p : List (List Int)) (i : Nat) : List CV := h32 fun j => (p.getD i []).getD j 0
/-- The cells of a leaf. -/
def leafGP (zp0 : type_of% @lI) (zp1 : type_of% @lK) (zp2 : type_of% @lN) (zp3 : type_of% @lP) (zp4 : type_of% @lV) (zp5 : type_of% @pG) (fr : Bool) (l : List PLeaf) (i j : Nat) : Cell := match j with
  | 0 => .pl (.str (zp1 l i))
  | 1 => .pl (.str (zp4 l i))
  | 2 => .pl (.int .i64 (zp0 l i))
  | _ => .es fr 36 32 (zp2 l i) (zp5 (zp3 l i))
@[reducible] def leafG := leafGP lI lK lN lP lV pG
def vInt : CV → Int
  | .int .u8 n => n
  | _ => 0







end Go.Proofs.YtbbpgicoklhheaaDoor.Vx
end

section
/- The table of types that the walker is told. -/
namespace Go.Proofs.YtbbpgicoklhheaaDoor.Vx
open Go.RowKit



end Go.Proofs.YtbbpgicoklhheaaDoor.Vx
end
