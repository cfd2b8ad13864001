/- What all proofs of this seat share: a block of cells that is known whole, and frames. -/
import Derived.Test.YtcgoaicifjndpaaRows
import Derived.WalkKit
import Derived.WalkSpells
import Derived.WalkLawsBesides
import Derived.Deep.QuietTactic
import Derived.BigQuiet
import Derived.Lib.Hide
import Derived.ProofKit
import Derived.OpenShut
namespace Go.Proofs.Ytcgoaicifjndpaa
open Go.RowKit
set_option linter.unusedVariables false

/-- Block g holds just these cells, of element type t, none of them frozen. -/
def Blk (w : World) (g : Nat) (t : TypeId) (cs : Array Value) : Prop := w.heap[g]? = some (.cells cs t (0, 0))

section
variable {w w' : World} {g : Nat} {t : TypeId} {cs : Array Value}
theorem Blk.lt (h : Blk w g t cs) : g < w.heap.size := by
  unfold Blk at h
  exact (Array.getElem?_eq_some_iff.1 h).1
theorem Blk.cell (h : Blk w g t cs) (i : Nat) : w.cell? ⟨g, i, none⟩ = cs[i]? := by
  unfold Blk at h
  simp [World.cell?, h]
theorem Blk.free (h : Blk w g t cs) (i : Nat) : w.frozen? ⟨g, i, none⟩ = false := by
  unfold Blk at h
  simp [World.frozen?, h]
theorem Blk.new (w : World) (t : TypeId) (cs : Array Value) : Blk (w.alloc (.cells cs t)) w.heap.size t cs := heap_alloc_new w _
theorem Blk.drewN (h : Blk w g t cs) (n : Nat) : Blk (w.drewN n) g t cs := h
theorem Blk.alloc (h : Blk w g t cs) (o : Obj) : Blk (w.alloc o) g t cs := (Below.heap_alloc w o g h.lt).trans h
theorem Blk.set (h : Blk w g t cs) (i : Nat) (u : Value) : Blk (w.setCell ⟨g, i, none⟩ u) g t (cs.setIfInBounds i u) := by
  unfold Blk at h ⊢
  simp [World.setCell, Array.getElem?_modify, h]
theorem Blk.below {B : Nat} (h : Blk w g t cs) (hb : Below B w w') (hg : g < B) : Blk w' g t cs := (hb.block g hg).trans h
end

/-- A slice of integers that came in, as it reads: its elements are xs. -/
def Ints (k : IntKind) (w : World) (a : Option Addr) (xs : List Int) : Prop :=
  (∀ n ∈ xs, (Lit.int k n).wf = true) ∧ (0 < xs.length → ∃ b off, a = some ⟨b, off, none⟩ ∧ b < w.heap.size ∧ ∀ i, i < xs.length → w.cell? ⟨b, off + i, none⟩ = some (.int k (xs.getD i 0)))

theorem Ints.at_ {k : IntKind} {w w' : World} {a : Option Addr} {xs : List Int} (h : Ints k w a xs) (hb : Below w.heap.size w w') {i : Nat} (hi : i < xs.length) :
    ∃ b off, a = some ⟨b, off, none⟩ ∧ b < w.heap.size ∧ w'.cell? ⟨b, off + i, none⟩ = some (.int k (xs.getD i 0)) := by
  obtain ⟨b, off, ha, hl, hc⟩ := h.2 (by omega)
  exact ⟨b, off, ha, hl, (hb.cell (p := ⟨b, off + i, none⟩) hl).trans (hc i hi)⟩

theorem ret_bool {a b : Bool} (h : a = b) : Ending.returned (.bool a) = .returned (.bool b) := by rw [h]
section
open Go.ChangeShapes Go.WideShapes Go.ChangeAt
variable {H : Type} {enc : TypeId × Value → H} {P : Program} {w : World} {base : Nat}
end

/-- A byte as the model holds it. -/
def bv (c : UInt8) : Value := .int .u8 (c.toNat : Int)

/-- A slice of bytes that the call itself made. -/
def OwnB (w : World) (base : Nat) (v : Value) (l : List UInt8) : Prop := w.ownsRow base 5 1 v l.length (l.map bv)

theorem OwnB.nil (w : World) (base : Nat) : OwnB w base (.slice none 0 0) [] := World.ownsRow_nil _ _ _ _
theorem OwnB.alloc {w : World} {base : Nat} {v : Value} {l : List UInt8} (h : OwnB w base v l) (o : Obj) : OwnB (w.alloc o) base v l := World.ownsRow.alloc h o
theorem OwnB.push {w : World} {base : Nat} {v : Value} {l : List UInt8} {x : Int} (c : UInt8) (hx : x = (c.toNat : Int)) (h : w.ownsRow base 5 1 v (l.length + 1) (l.map bv ++ [.int .u8 x])) : OwnB w base v (l ++ [c]) := by
  unfold OwnB
  rw [List.length_append, List.map_append]
  subst hx
  exact h

theorem bytes_of_nums (l : List UInt8) : strOfNums (l.map fun c => (c.toNat : Int)) = ⟨l.toArray⟩ := by
  unfold strOfNums
  rw [List.map_map]
  congr 1
  congr 1
  rw [List.map_congr_left (g := id), List.map_id]
  intro c _
  apply UInt8.toNat_inj.1
  have := c.toNat_lt
  simp

/-- 'string(b)' of bytes that the call itself made. -/
theorem OwnB.str {w : World} {base : Nat} {v : Value} {l : List UInt8} (h : OwnB w base v l) :
    (convert 188 9 v).run Try.prog w = .ok (.string ⟨l.toArray⟩) w := by
  have h' : w.ownsRow base 5 1 v l.length (l.map bv) := h
  rcases h.2 with ⟨hv, hn⟩ | ⟨g, cap, cur, hv, hb, hh, hnc, hcm, hcs, htake⟩
  · subst hv
    rw [run_convert_bytes_nil w 188 5 Try.underlying188 Try.underlying5 0 0 _ Try.underlying9]
    rw [List.eq_nil_of_length_eq_zero hn]
    rfl
  · subst hv
    rw [run_convert_bytes_arg w 188 5 Try.underlying188 Try.underlying5 g 0 l.length cap (l.map fun c => (c.toNat : Int)) (by simp) (fun i hi => ?_) _ Try.underlying9, bytes_of_nums]
    rw [Nat.zero_add, h'.cellAt i (by omega)]
    simp [bv, List.getD, List.getElem?_eq_getElem hi]

/-- 'string(b)' of a row of bytes that is known whole. -/
theorem Blk.str {w : World} {g : Nat} {t : TypeId} {cs : Array Value} (h : Blk w g t cs) (l : List UInt8) (hcs : ∀ i, i < l.length → cs[i]? = some (bv (l.getD i 0))) (cap : Nat) :
    (convert 188 9 (.slice (some ⟨g, 0, none⟩) l.length cap)).run Try.prog w = .ok (.string ⟨l.toArray⟩) w := by
  rw [run_convert_bytes_arg w 188 5 Try.underlying188 Try.underlying5 g 0 l.length cap (l.map fun c => (c.toNat : Int)) (by simp) (fun i hi => ?_) _ Try.underlying9, bytes_of_nums]
  rw [Nat.zero_add, h.cell i, hcs i hi]
  simp [bv, List.getD, List.getElem?_eq_getElem hi]

end Go.Proofs.Ytcgoaicifjndpaa
