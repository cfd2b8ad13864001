/- The sum, in plain Lean: words as integers; what both programs compute. -/
import Derived.Test.YtophhppklaofaaaDoorM1
namespace Go.Proofs.YtophhppklaofaaaDoor
set_option linter.unusedVariables false
namespace Sha
open Vx

def ksL : List Int := [1116352408, 1899447441, 3049323471, 3921009573, 961987163, 1508970993, 2453635748, 2870763221, 3624381080, 310598401, 607225278, 1426881987, 1925078388, 2162078206, 2614888103, 3248222580, 3835390401, 4022224774, 264347078, 604807628, 770255983, 1249150122, 1555081692, 1996064986, 2554220882, 2821834349, 2952996808, 3210313671, 3336571891, 3584528711, 113926993, 338241895, 666307205, 773529912, 1294757372, 1396182291, 1695183700, 1986661051, 2177026350, 2456956037, 2730485921, 2820302411, 3259730800, 3345764771, 3516065817, 3600352804, 4094571909, 275423344, 430227734, 506948616, 659060556, 883997877, 958139571, 1322822218, 1537002063, 1747873779, 1955562222, 2024104815, 2227730452, 2361852424, 2428436474, 2756734187, 3204031479, 3329325298]
def kOf (i : Nat) : Int := ksL.getD i 0
def addW (a b : Int) : Int := IntKind.wrap .u32 (a + b)
def xorW (a b : Int) : Int := bitsStd .xor .u32 a b
def andW (a b : Int) : Int := bitsStd .and .u32 a b
def orW (a b : Int) : Int := bitsStd .or .u32 a b
def notW (a : Int) : Int := bitsStd .xor .u32 4294967295 a
def shlW (a n : Int) : Int := IntKind.wrap .u32 (a * 2 ^ (min n.toNat 32))
def shrW (a n : Int) : Int := a.fdiv (2 ^ (min n.toNat 32))
def rot (x n : Int) : Int := orW (shrW x n) (shlW x (32 - n))
def turn3 (w a b c : Int) : Int := xorW (xorW (rot w a) (rot w b)) (rot w c)
def slide3 (w a b c : Int) : Int := xorW (xorW (rot w a) (rot w b)) (shrW w c)
/-- A byte of a chunk, as a word. -/
def byW (c : List UInt8) (i : Nat) : Int := IntKind.wrap .u32 ((c.getD i 0).toNat : Int)
def wordAt (c : List UInt8) (i : Nat) : Int := orW (orW (orW (shlW (byW c (4 * i)) 24) (shlW (byW c (4 * i + 1)) 16)) (shlW (byW c (4 * i + 2)) 8)) (byW c (4 * i + 3))
def nextW (c : List UInt8) (ws : List Int) (n : Nat) : Int :=
  if n < 16 then wordAt c n else addW (addW (addW (ws.getD (n - 16) 0) (slide3 (ws.getD (n - 15) 0) 7 18 3)) (ws.getD (n - 7) 0)) (slide3 (ws.getD (n - 2) 0) 17 19 10)
def sch (c : List UInt8) : Nat → List Int
  | 0 => []
  | n + 1 => sch c n ++ [nextW c (sch c n) n]
def schW (c : List UInt8) (i : Nat) : Int := (sch c 64).getD i 0
theorem sch_len (c : List UInt8) : ∀ n, (sch c n).length = n
  | 0 => rfl
  | n + 1 => by rw [sch, List.length_append, sch_len c n]; rfl
theorem sch_get (c : List UInt8) (i : Nat) : ∀ n m, i < n → (sch c (n + m)).getD i 0 = (sch c n).getD i 0
  | n, 0, _ => rfl
  | n, m + 1, h => by
    rw [← Nat.add_assoc, sch, List.getD_eq_getElem?_getD, List.getElem?_append_left (by rw [sch_len]; omega), ← List.getD_eq_getElem?_getD]
    exact sch_get c i n m h
theorem schW_eq (c : List UInt8) {i n : Nat} (h : i < n) (hn : n ≤ 64) : (sch c n).getD i 0 = schW c i := by
  unfold schW
  rw [show 64 = n + (64 - n) by omega, sch_get c i n _ h]
theorem schW_lo (c : List UInt8) {i : Nat} (h : i < 16) : schW c i = wordAt c i := by
  rw [← schW_eq c (show i < i + 1 by omega) (by omega), sch, List.getD_eq_getElem?_getD, List.getElem?_append_right (by rw [sch_len]; exact Nat.le_refl _), sch_len, Nat.sub_self]
  show nextW c _ i = _
  unfold nextW
  rw [if_pos h]
theorem schW_hi (c : List UInt8) {i : Nat} (h : 16 ≤ i) (hi : i < 64) : schW c i = addW (addW (addW (schW c (i - 16)) (slide3 (schW c (i - 15)) 7 18 3)) (schW c (i - 7))) (slide3 (schW c (i - 2)) 17 19 10) := by
  rw [← schW_eq c (show i < i + 1 by omega) (by omega), sch, List.getD_eq_getElem?_getD, List.getElem?_append_right (by rw [sch_len]; exact Nat.le_refl _), sch_len, Nat.sub_self]
  show nextW c _ i = _
  unfold nextW
  rw [if_neg (by omega), schW_eq c (by omega) (by omega), schW_eq c (by omega) (by omega), schW_eq c (by omega) (by omega), schW_eq c (by omega) (by omega)]

/-- Eight words. -/
structure S8 where
  a : Int
  b : Int
  c : Int
  d : Int
  e : Int
  f : Int
  g : Int
  h : Int
def tOf (s : S8) (k w : Int) : Int := addW (addW (addW (addW s.h (turn3 s.e 6 11 25)) (xorW (andW s.e s.f) (andW (notW s.e) s.g))) k) w
def uOf (s : S8) : Int := addW (turn3 s.a 2 13 22) (xorW (xorW (andW s.a s.b) (andW s.a s.c)) (andW s.b s.c))
def rnd (s : S8) (k w : Int) : S8 := ⟨addW (tOf s k w) (uOf s), s.a, s.b, s.c, addW s.d (tOf s k w), s.e, s.f, s.g⟩
def rounds (c : List UInt8) (s : S8) : Nat → S8
  | 0 => s
  | n + 1 => rnd (rounds c s n) (kOf n) (schW c n)
def mixS (s : S8) (c : List UInt8) : S8 :=
  let r := rounds c s 64
  ⟨addW s.a r.a, addW s.b r.b, addW s.c r.c, addW s.d r.d, addW s.e r.e, addW s.f r.f, addW s.g r.g, addW s.h r.h⟩
def iv : S8 := ⟨1779033703, 3144134277, 1013904242, 2773480762, 1359893119, 2600822924, 528734635, 1541459225⟩
def blocks : Nat → S8 → List UInt8 → S8
  | 0, s, _ => s
  | n + 1, s, l => blocks n (mixS s (l.take 64)) (l.drop 64)
/-- The bits of so many bytes, as eight bytes. -/
def lenB (n : Nat) (j : Nat) : Int := IntKind.wrap .u8 ((IntKind.wrap .u64 (IntKind.wrap .u64 (n : Int) * 8)).fdiv (2 ^ (8 * (7 - j))))
def len8 (n : Nat) : List UInt8 := (List.range 8).map fun j => UInt8.ofNat (lenB n j).toNat
def zs (n : Nat) : Nat := (119 - n % 64) % 64
def pad (l : List UInt8) : List UInt8 := l ++ ([128] ++ List.replicate (zs l.length) 0 ++ len8 l.length)
def endS (l : List UInt8) : S8 := blocks ((pad l).length / 64) iv (pad l)
def S8.at (s : S8) (i : Nat) : Int := [s.a, s.b, s.c, s.d, s.e, s.f, s.g, s.h].getD i 0
/-- A byte of the sum. -/
def outS (s : S8) (i : Nat) : Int := IntKind.wrap .u8 ((s.at (i / 4)).fdiv (2 ^ (24 - 8 * (i % 4))))
def sumI (l : List UInt8) (i : Nat) : Int := outS (endS l) i
theorem len8_len (n : Nat) : (len8 n).length = 8 := by simp [len8]
theorem pad_len (l : List UInt8) : (pad l).length = l.length + 1 + zs l.length + 8 := by
  simp [pad, len8_len]; omega
theorem pad_mod (l : List UInt8) : (pad l).length % 64 = 0 := by
  rw [pad_len]
  unfold zs
  omega
theorem blocks_add : ∀ (n m : Nat) (s : S8) (l : List UInt8), blocks (n + m) s l = blocks m (blocks n s l) (l.drop (64 * n))
  | 0, m, s, l => by simp [blocks]
  | n + 1, m, s, l => by
    rw [Nat.add_right_comm, blocks, blocks_add n m, blocks, List.drop_drop]
    congr 2
    omega
theorem sumI_range (l : List UInt8) (i : Nat) : 0 ≤ sumI l i ∧ sumI l i < 256 := by
  unfold sumI outS
  generalize ((endS l).at (i / 4)).fdiv (2 ^ (24 - 8 * (i % 4))) = x
  simp only [IntKind.wrap]
  exact ⟨Int.emod_nonneg _ (by decide), Int.emod_lt_of_pos _ (by decide)⟩
end Sha
end Go.Proofs.YtophhppklaofaaaDoor
