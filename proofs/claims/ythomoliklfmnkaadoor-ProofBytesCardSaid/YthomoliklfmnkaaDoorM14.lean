/- What all proofs of this seat share: a block of cells that is known whole, and frames. -/
import Derived.Test.YthomoliklfmnkaaDoorRows
import Derived.WalkKit
import Derived.WalkSpells
import Derived.WalkLawsBesides
import Derived.Deep.QuietTactic
import Derived.BigQuiet
import Derived.Lib.Hide
import Derived.ProofKit
import Derived.OpenShut
import Derived.Test.YthomoliklfmnkaaDoorVxFrame
import Derived.Lib.AppendZerosOnto
import Derived.Lib.Overlaps
import Derived.Laws.Externs
import Derived.Laws.CopyRow
import Derived.Deep.AppendSrc
import Derived.Lib.JoinLaws
import Derived.Lib.SliceRun
import Derived.Lib.AppendZeros
import Derived.Deep.RegionLaw
import Derived.Shelf.RegionOpenPlain
import Derived.Test.YthomoliklfmnkaaDoorM7
section
namespace Go.Proofs.YthomoliklfmnkaaDoor
open Go.RowKit
set_option linter.unusedVariables false

/-- Block g holds just these cells, of element type t, none of them frozen. -/
def Blk (w : World) (g : Nat) (t : TypeId) (cs : Array Value) : Prop := w.heap[g]? = some (.cells cs t (0, 0))

section
variable {w w' : World} {g : Nat} {t : TypeId} {cs : Array Value}
theorem Blk.cell (h : Blk w g t cs) (i : Nat) : w.cell? ⟨g, i, none⟩ = cs[i]? := by
  unfold Blk at h
  simp [World.cell?, h]
theorem Blk.new (w : World) (t : TypeId) (cs : Array Value) : Blk (w.alloc (.cells cs t)) w.heap.size t cs := heap_alloc_new w _
end




theorem ret_bool {a b : Bool} (h : a = b) : Ending.returned (.bool a) = .returned (.bool b) := by rw [h]
theorem ret_str {a b : ByteArray} (h : a = b) : Ending.returned (.string a) = .returned (.string b) := by rw [h]

section
open Go.ChangeShapes Go.WideShapes Go.ChangeAt
variable {H : Type} {enc : TypeId × Value → H} {P : Program} {w : World} {base : Nat}
end

/-- A byte as the model holds it. -/
def bv (c : UInt8) : Value := .int .u8 (c.toNat : Int)

/-- A slice of bytes that the call itself made. -/
def OwnB (w : World) (base : Nat) (v : Value) (l : List UInt8) : Prop := w.ownsRow base 5 1 v l.length (l.map bv)

theorem OwnB.nil (w : World) (base : Nat) : OwnB w base (.slice none 0 0) [] := World.ownsRow_nil _ _ _ _
theorem OwnB.alloc {w : World} {base : Nat} {v : Value} {l : List UInt8} (h : OwnB w base v l) (o : Obj) : OwnB (w.alloc o) base v l := World.ownsRow.alloc h o
theorem OwnB.push {w : World} {base : Nat} {v : Value} {l : List UInt8} {x : Int} (c : UInt8) (hx : x = (c.toNat : Int)) (h : w.ownsRow base 5 1 v (l.length + 1) (l.map bv ++ [.int .u8 x])) : OwnB w base v (l ++ [c]) := by
  unfold OwnB
  rw [List.length_append, List.map_append]
  subst hx
  exact h

theorem info_u8 : (Tryd.prog.info? 5).map (fun i => (i.zero, i.size, i.bytes)) = some (some (.int .u8 0), 1, 1) := by kernel_rfl

theorem bytes_of_nums (l : List UInt8) : strOfNums (l.map fun c => (c.toNat : Int)) = ⟨l.toArray⟩ := by
  unfold strOfNums
  rw [List.map_map]
  congr 1
  congr 1
  rw [List.map_congr_left (g := id), List.map_id]
  intro c _
  apply UInt8.toNat_inj.1
  have := c.toNat_lt
  simp

theorem cell_new0 (w : World) (t : TypeId) (u : Value) : (w.alloc (.cells #[u] t)).cell? ⟨w.heap.size, 0, none⟩ = some u := (Blk.new w t #[u]).cell 0


/-- 'string(b)' of bytes that the call itself made. -/
theorem OwnB.str {w : World} {base : Nat} {v : Value} {l : List UInt8} (h : OwnB w base v l) :
    (convert 158 9 v).run Tryd.prog w = .ok (.string ⟨l.toArray⟩) w := by
  have h' : w.ownsRow base 5 1 v l.length (l.map bv) := h
  rcases h.2 with ⟨hv, hn⟩ | ⟨g, cap, cur, hv, hb, hh, hnc, hcm, hcs, htake⟩
  · subst hv
    rw [run_convert_bytes_nil w 158 5 Tryd.underlying158 Tryd.underlying5 0 0 _ Tryd.underlying9]
    rw [List.eq_nil_of_length_eq_zero hn]
    rfl
  · subst hv
    rw [run_convert_bytes_arg w 158 5 Tryd.underlying158 Tryd.underlying5 g 0 l.length cap (l.map fun c => (c.toNat : Int)) (by simp) (fun i hi => ?_) _ Tryd.underlying9, bytes_of_nums]
    rw [Nat.zero_add, h'.cellAt i (by omega)]
    simp [bv, List.getD, List.getElem?_eq_getElem hi]


/-- One byte more, behind bytes that the call itself made. -/
theorem wpList_push_byte {w : World} {ops : Array Oper} {rest : List Oper} {o : Oper} {a : Act} {Q : Exit → Act → World → Prop} (hgd : o.guard = none) (s x : Operand)
    (ho : o.op = .call { callee := .builtin .append, args := #[s, x], argTypes := #[158, 158] })
    (base : Nat) (v : Value) (l : List UInt8) (hs : a.eval s = v) (hown : OwnB w base v l)
    (b : Nat) (y : Int) (hx : a.eval x = .slice (some ⟨b, 0, none⟩) 1 1) (hc : w.cell? ⟨b, 0, none⟩ = some (.int .u8 y)) (c : UInt8) (hy : y = (c.toNat : Int))
    (hlen : l.length ≤ 1099511627776) (hbase : base ≤ w.heap.size)
    (h : ∀ v' w', OwnB w' base v' (l ++ [c]) → w.heap.size ≤ w'.heap.size → Below base w w' → wpList Tryd.prog ops Q rest (a.put o.dst v') w') : wpList Tryd.prog ops Q (o :: rest) a w := by
  obtain ⟨i0, hi, hz0, hz1, hz2⟩ := info_parts info_u8
  refine wpList_append_own w hgd s x 158 ho base 5 i0 (.int .u8 0) 1 1 Tryd.underlying158 hi hz0 hz1 hz2 rfl (by decide) v l.length (l.map bv) hs hown ⟨b, 0, none⟩ 1 1 [.int .u8 y] hx rfl ?_ ?_ ?_ ?_ hbase ?_
  · intro j u hj
    match j, hj with
    | 0, hj => simp at hj; subst hj; simpa [Addr.add] using hc
  · intro u hu; simp at hu; subst hu; rfl
  · unfold maxLen; omega
  · omega
  · intro v' w' hown' hg _
    exact h v' w' (OwnB.push c hy hown') hg.size ((Below.refl _ _).grown hg hbase fun k hk => (World.ownsRow.lt hown k hk).1)
end Go.Proofs.YthomoliklfmnkaaDoor
end

section
/- slices.Insert at pairs: one pair laid in at a place of an own row, by the kit's walker. -/
namespace Go.Proofs.YthomoliklfmnkaaDoor.Vx
open Go.RowKit Go.Lib
set_option linter.unusedVariables false
set_option linter.unusedSimpArgs false
end Go.Proofs.YthomoliklfmnkaaDoor.Vx
end

section
/- slices.Insert at pairs: its contract. -/
namespace Go.Proofs.YthomoliklfmnkaaDoor.Vx
open Go.RowKit
set_option linter.unusedVariables false
set_option linter.unusedSimpArgs false
end Go.Proofs.YthomoliklfmnkaaDoor.Vx
end

section
/- slices.Delete at pairs: one pair taken out of an own row, by the kit's walker; its contract. -/
namespace Go.Proofs.YthomoliklfmnkaaDoor.Vx
open Go.RowKit Go.Lib
set_option linter.unusedVariables false
set_option linter.unusedSimpArgs false
end Go.Proofs.YthomoliklfmnkaaDoor.Vx
end

section
/- More of what all proofs of this seat share. -/
namespace Go.Proofs.YthomoliklfmnkaaDoor
open Go.RowKit
set_option linter.unusedVariables false



end Go.Proofs.YthomoliklfmnkaaDoor
end

section
/- Names and ends: what path.Name, path.May and the document's Name and MayEnd return. -/
namespace Go.Proofs.YthomoliklfmnkaaDoor
open Go.RowKit
set_option linter.unusedVariables false











end Go.Proofs.YthomoliklfmnkaaDoor
end
