/- Numbers in groups of seven bits, and in eight bytes: what they are, and the plain laws on them. No program in sight. -/
import Derived.Below
import GoSem.Op.String
section
namespace Go.Proofs.Ythomoliklfmnkaa.Leb
set_option linter.unusedVariables false

/-- Groups of seven bits, the lowest first; at most f + 1 of them. -/
def putF : Nat → Nat → List UInt8
  | 0, n => [UInt8.ofNat n]
  | f + 1, n => if n < 128 then [UInt8.ofNat n] else UInt8.ofNat (n % 128 + 128) :: putF f (n / 128)

def put (v : Int) : List UInt8 := if 0 ≤ v ∧ v ≤ 72057594037927935 then putF 7 v.toNat else []










theorem putF_length (f n : Nat) : 1 ≤ (putF f n).length ∧ (putF f n).length ≤ f + 1 := by
  induction f generalizing n with
  | zero => simp [putF]
  | succ f ih =>
    rw [putF]
    split
    · simp
    · have := ih (n / 128); simp; omega

theorem toNat_ofNat {n : Nat} (h : n < 256) : (UInt8.ofNat n).toNat = n := by
  rw [UInt8.toNat_ofNat']; omega




theorem put_len (v : Int) (h0 : 0 ≤ v) (h1 : v ≤ 72057594037927935) : 1 ≤ (put v).length ∧ (put v).length ≤ 8 := by
  unfold put
  rw [if_pos ⟨h0, h1⟩]
  have := putF_length 7 v.toNat
  omega

theorem put_len_le (v : Int) : (put v).length ≤ 8 := by
  unfold put
  split
  · have := putF_length 7 v.toNat; omega
  · simp





















end Go.Proofs.Ythomoliklfmnkaa.Leb
end

section
/- What readers answer, plainly. -/
namespace Go.Proofs.Ythomoliklfmnkaa
set_option linter.unusedVariables false

/-- A text in bytes. -/
def textB (m : List UInt8) : List UInt8 := Leb.put m.length ++ m
/-! What a reader of the bytes l at the place a with the error b answers: a value, the new place, the new error. -/
def cut (l : List UInt8) (a n : Int) : List UInt8 := (l.drop a.toNat).take n.toNat








end Go.Proofs.Ythomoliklfmnkaa
end

section
/- Readers and what they read back, plainly: one law for each way of putting readers together. -/
namespace Go.Proofs.Ythomoliklfmnkaa
set_option linter.unusedVariables false
set_option linter.unusedSimpArgs false







end Go.Proofs.Ythomoliklfmnkaa
end

section
/- Lists that are read back; texts that are decoded whole. -/
namespace Go.Proofs.Ythomoliklfmnkaa
set_option linter.unusedVariables false
set_option linter.unusedSimpArgs false



def flatE {α : Type} (E : α → List UInt8) (xs : List α) : List UInt8 := (xs.map E).flatten

/-! ### A text, decoded whole -/
section
variable {α : Type} {r : List UInt8 → Int × Int → α × Int × Int} {E : α → List UInt8} {V : α → Prop} {z : α} {may : α → Bool}
end


/-! ### Readers that stop at an error -/
end Go.Proofs.Ythomoliklfmnkaa
end
