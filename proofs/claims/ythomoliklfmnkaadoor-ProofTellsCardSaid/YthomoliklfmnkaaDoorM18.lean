/- Texts in digits; sums in order, by the walker. -/
import Derived.Test.YthomoliklfmnkaaDoorM17
import Derived.Test.YthomoliklfmnkaaDoorShelf
section
namespace Go.Proofs.YthomoliklfmnkaaDoor.Vx
open Go.RowKit Sha
set_option linter.unusedVariables false
set_option linter.unusedSimpArgs false









end Go.Proofs.YthomoliklfmnkaaDoor.Vx
end

section
/- Digits read back, by the walker. -/
namespace Go.Proofs.YthomoliklfmnkaaDoor.Vx
open Go.RowKit Sha
set_option linter.unusedVariables false
set_option linter.unusedSimpArgs false
/-- Where a byte stands in a text. -/
def ixB (l : List UInt8) (c : Int) : Int := Lib.indexByte l c.toNat.toUInt8
/-- The value of the digit at a place. -/
def hv (s : List UInt8) (k : Nat) : Int := ixB digs ((s.getD k 0).toNat : Int)





end Go.Proofs.YthomoliklfmnkaaDoor.Vx
end

section
/- The laws of the sums, by the walker: ShaCuts, ShaTells, ShaLess. -/
namespace Go.Proofs.YthomoliklfmnkaaDoor.Vx
open Go.RowKit Sha
set_option linter.unusedVariables false
set_option linter.unusedSimpArgs false
/-- The texts of a slice that is written out. -/
theorem strs_cut (ls : List (List UInt8)) : StrsAt ls.length (cutC 1 (ls.map CV.str) 0) ∧ joinG ls.length (cutC 1 (ls.map CV.str) 0) = ls.flatten := by
  have e : ∀ i, (hi : i < ls.length) → cutC 1 (ls.map CV.str) 0 i = [.str ls[i]] := fun i hi => by
    unfold cutC
    rw [Nat.mul_one, Nat.zero_add, List.drop_eq_getElem_cons (by simpa using hi)]
    simp
  refine ⟨fun i hi => ⟨_, e i hi⟩, ?_⟩
  unfold joinG
  rw [List.flatMap]
  congr 1
  apply List.ext_getElem
  · simp
  · intro i h1 h2
    simp only [List.getElem_map, List.getElem_range]
    rw [e i h2]
    rfl
theorem sumPre_cut (ls : List (List UInt8)) (h : ls.flatten.length ≤ 140737488350000) (hn : ls.length ≤ 1000) : sumPre 0 1 64 (fun i => [.int .u32 (kOf i)]) 9 1 ls.length (cutC 1 (ls.map CV.str) 0) := by
  obtain ⟨h1, h2⟩ := strs_cut ls
  exact ⟨ksAt_self, rfl, rfl, h1, by omega, by rw [h2]; exact h⟩






end Go.Proofs.YthomoliklfmnkaaDoor.Vx
end

section
/- The laws ShaCuts, ShaTells, ShaLess. -/
namespace Go.Proofs.YthomoliklfmnkaaDoor.Vx
open Go.RowKit Sha
set_option linter.unusedVariables false
set_option linter.unusedSimpArgs false

/-- Two sums are one, byte by byte. -/
def eqH (f g : Nat → Int) : Bool := decide (f 0 = g 0) && (decide (f 1 = g 1) && (decide (f 2 = g 2) && (decide (f 3 = g 3) && (decide (f 4 = g 4) && (decide (f 5 = g 5) && (decide (f 6 = g 6) && (decide (f 7 = g 7) && (decide (f 8 = g 8) && (decide (f 9 = g 9) && (decide (f 10 = g 10) && (decide (f 11 = g 11) && (decide (f 12 = g 12) && (decide (f 13 = g 13) && (decide (f 14 = g 14) && (decide (f 15 = g 15) && (decide (f 16 = g 16) && (decide (f 17 = g 17) && (decide (f 18 = g 18) && (decide (f 19 = g 19) && (decide (f 20 = g 20) && (decide (f 21 = g 21) && (decide (f 22 = g 22) && (decide (f 23 = g 23) && (decide (f 24 = g 24) && (decide (f 25 = g 25) && (decide (f 26 = g 26) && (decide (f 27 = g 27) && (decide (f 28 = g 28) && (decide (f 29 = g 29) && (decide (f 30 = g 30) && (decide (f 31 = g 31) && true)))))))))))))))))))))))))))))))

end Go.Proofs.YthomoliklfmnkaaDoor.Vx
end

section
/- The law ShaCuts, from a world in which the sums' words stand. -/
namespace Go.Proofs.YthomoliklfmnkaaDoor
open Go.RowKit
set_option linter.unusedVariables false
namespace Vx
theorem relGlob {w : World} (hk : ∀ i, i < 64 → w.cell? ⟨0, i, none⟩ = some (.int .u32 (Sha.kOf i))) :
    Rel w (Gs.all []) [⟨0, undef, 0⟩] [.glob 0 1 64 (fun i => [.int .u32 (Sha.kOf i)])] w := by
  have hlt : 0 < w.heap.size := World.block_lt_of_cell? w _ (hk 0 (by decide))
  have h0 : ∀ {k : Nat} {e : Ent}, [Ent.glob 0 1 64 (fun i => [CV.int .u32 (Sha.kOf i)])][k]? = some e → k = 0 ∧ e = .glob 0 1 64 (fun i => [.int .u32 (Sha.kOf i)]) := fun {k e} h => by
    cases k with
    | zero => simp at h; exact ⟨rfl, h.symm⟩
    | succ k => simp at h
  have hf : ∀ {k c : Nat}, fp [⟨0, undef, 0⟩] [Ent.glob 0 1 64 (fun i => [CV.int .u32 (Sha.kOf i)])] k = some c → False := fun {k c} h => by
    obtain ⟨e, p, he, hp, hx⟩ := fp_some h
    obtain ⟨rfl, rfl⟩ := h0 he
    cases hx
  refine ⟨rfl, fun k e p he hp => ?_, fun k c h => (hf h).elim, fun j k c h1 h2 => (hf h1).elim, fun _ _ _ => rfl, fun k e p he hp => ?_, rfl, rfl, rfl, Nat.le_refl _⟩
  · obtain ⟨rfl, rfl⟩ := h0 he
    simp at hp
    subst hp
    refine ⟨⟨rfl, rfl⟩, fun i hi => ⟨[.int .u32 (Sha.kOf i)], rfl, fun j v hv => ?_⟩⟩
    cases j with
    | zero =>
      simp at hv
      rw [← hv]
      have := hk i hi
      simpa using this
    | succ j => simp at hv
  · obtain ⟨rfl, rfl⟩ := h0 he
    simp at hp
    subst hp
    exact fun _ => Or.inl ⟨hlt, by simp, trivial⟩
end Vx
end Go.Proofs.YthomoliklfmnkaaDoor
end
