/- '==' of structs and arrays whose cells are numbers, strings and bools, of any shape. -/
import Derived.Test.YthomoliklfmnkaaVxPevOk2
import Derived.ChangeKeysEq
namespace Go.Proofs.Ythomoliklfmnkaa.Vx
open Go.RowKit
set_option linter.unusedVariables false
set_option linter.unusedSimpArgs false

def flatFs (P : Program) (F : TypeId → Option (List Nat)) : List Field → Nat → Option (List Nat)
  | [], _ => some []
  | f :: r, o =>
    if f.name ≠ "_" ∧ f.offset = o then
      match F f.type, P.info? f.type with
      | some g, some i => if i.size = g.length then (flatFs P F r (o + g.length)).map (g ++ ·) else none
      | _, _ => none
    else none

def flat (P : Program) : Nat → TypeId → Option (List Nat)
  | 0, _ => none
  | d + 1, t => match P.underlying t with
    | some (.int _) => some [0]
    | some .string => some [1]
    | some .bool => some [2]
    | some (.struct fs) => if P.stoodInHeld t then none else flatFs P (flat P d) fs.toList 0
    | some (.array n e) => match flat P d e, P.info? e with
      | some g, some i => if i.size = g.length then some ((List.replicate n g).flatten) else none
      | _, _ => none
    | _ => none







end Go.Proofs.Ythomoliklfmnkaa.Vx
