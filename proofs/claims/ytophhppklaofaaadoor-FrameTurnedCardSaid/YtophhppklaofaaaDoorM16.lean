/- Sums as texts, in digits, and in order, by the walker. -/
import Derived.Test.YtophhppklaofaaaDoorM15
import Derived.Test.YtophhppklaofaaaDoorShelf
section
namespace Go.Proofs.YtophhppklaofaaaDoor.Vx
open Go.RowKit Sha
set_option linter.unusedVariables false
set_option linter.unusedSimpArgs false

/-- A sum's bytes, as cells. -/
def hashC (f : Nat → Int) : List CV := [.int .u8 (f 0), .int .u8 (f 1), .int .u8 (f 2), .int .u8 (f 3), .int .u8 (f 4), .int .u8 (f 5), .int .u8 (f 6), .int .u8 (f 7), .int .u8 (f 8), .int .u8 (f 9), .int .u8 (f 10), .int .u8 (f 11), .int .u8 (f 12), .int .u8 (f 13), .int .u8 (f 14), .int .u8 (f 15), .int .u8 (f 16), .int .u8 (f 17), .int .u8 (f 18), .int .u8 (f 19), .int .u8 (f 20), .int .u8 (f 21), .int .u8 (f 22), .int .u8 (f 23), .int .u8 (f 24), .int .u8 (f 25), .int .u8 (f 26), .int .u8 (f 27), .int .u8 (f 28), .int .u8 (f 29), .int .u8 (f 30), .int .u8 (f 31)]
def HashC (xs : List CV) : Prop := ∃ f : Nat → Int, xs = hashC f ∧ ∀ i, 0 ≤ f i ∧ f i < 256
/-- Cells as bytes. -/
def u8s (xs : List CV) : List UInt8 := xs.map fun c => byteOf [c]
def hashB (f : Nat → Int) : List UInt8 := (List.range 32).map fun i => UInt8.ofNat (f i).toNat
theorem hashB_len (f : Nat → Int) : (hashB f).length = 32 := by simp [hashB]
theorem hashC_sum (l : List UInt8) : HashC (hashC (sumI l)) := ⟨sumI l, rfl, sumI_range l⟩
def digs : List UInt8 := [48, 49, 50, 51, 52, 53, 54, 55, 56, 57, 97, 98, 99, 100, 101, 102]
def sText : List SV → Option (Prop × SV)
  | [.agg xs] => some (HashC xs, .c (.str (u8s xs)))
  | _ => none

set_option maxRecDepth 100000 in
set_option maxHeartbeats 2000000 in
theorem textP : Pure Tryd.prog 21 sText := by
  have hC : CtsOk Tryd.prog [] := CtsOk.nil _
  refine Pure.of (E := tbC) (C := []) [] 0 [] tbC_ok hC (by kernel_rfl) Tryd.func21 rfl rfl rfl (by kernel_rfl) (by kernel_rfl) ?_ ?_
  · intro args pre r h
    unfold sText at h
    split at h
    · cases h; rfl
    · cases h
  · intro args pre r h hp
    unfold sText at h
    split at h
    rotate_left
    · cases h
    rename_i xs
    cases h
    obtain ⟨f, rfl, hf⟩ := hp
    unfold hashC
    generalize hg0 : u8s = g0
    generalize hA : Arith.std = A
    cbv
    subst hA hg0
    rfl




end Go.Proofs.YtophhppklaofaaaDoor.Vx
end

section
/- Texts in digits; sums in order, by the walker. -/
namespace Go.Proofs.YtophhppklaofaaaDoor.Vx
open Go.RowKit Sha
set_option linter.unusedVariables false
set_option linter.unusedSimpArgs false









end Go.Proofs.YtophhppklaofaaaDoor.Vx
end

section
/- Digits read back, by the walker. -/
namespace Go.Proofs.YtophhppklaofaaaDoor.Vx
open Go.RowKit Sha
set_option linter.unusedVariables false
set_option linter.unusedSimpArgs false
/-- Where a byte stands in a text. -/
def ixB (l : List UInt8) (c : Int) : Int := Lib.indexByte l c.toNat.toUInt8
/-- The value of the digit at a place. -/
def hv (s : List UInt8) (k : Nat) : Int := ixB digs ((s.getD k 0).toNat : Int)





end Go.Proofs.YtophhppklaofaaaDoor.Vx
end

section
/- The laws of the sums, by the walker: ShaCuts, ShaTells, ShaLess. -/
namespace Go.Proofs.YtophhppklaofaaaDoor.Vx
open Go.RowKit Sha
set_option linter.unusedVariables false
set_option linter.unusedSimpArgs false
/-- The texts of a slice that is written out. -/
theorem strs_cut (ls : List (List UInt8)) : StrsAt ls.length (cutC 1 (ls.map CV.str) 0) ∧ joinG ls.length (cutC 1 (ls.map CV.str) 0) = ls.flatten := by
  have e : ∀ i, (hi : i < ls.length) → cutC 1 (ls.map CV.str) 0 i = [.str ls[i]] := fun i hi => by
    unfold cutC
    rw [Nat.mul_one, Nat.zero_add, List.drop_eq_getElem_cons (by simpa using hi)]
    simp
  refine ⟨fun i hi => ⟨_, e i hi⟩, ?_⟩
  unfold joinG
  rw [List.flatMap]
  congr 1
  apply List.ext_getElem
  · simp
  · intro i h1 h2
    simp only [List.getElem_map, List.getElem_range]
    rw [e i h2]
    rfl
theorem sumPre_cut (ls : List (List UInt8)) (h : ls.flatten.length ≤ 140737488350000) (hn : ls.length ≤ 1000) : sumPre 0 1 64 (fun i => [.int .u32 (kOf i)]) 9 1 ls.length (cutC 1 (ls.map CV.str) 0) := by
  obtain ⟨h1, h2⟩ := strs_cut ls
  exact ⟨ksAt_self, rfl, rfl, h1, by omega, by rw [h2]; exact h⟩






end Go.Proofs.YtophhppklaofaaaDoor.Vx
end

section
/- The laws ShaCuts, ShaTells, ShaLess. -/
namespace Go.Proofs.YtophhppklaofaaaDoor.Vx
open Go.RowKit Sha
set_option linter.unusedVariables false
set_option linter.unusedSimpArgs false


end Go.Proofs.YtophhppklaofaaaDoor.Vx
end
