/- The sum, in plain Lean: words as integers; what both programs compute. -/
import Derived.Test.YthomoliklfmnkaaDoorM1
import Derived.Lib.Bytealg
import Derived.Test.YthomoliklfmnkaaDoorVxLive
import Derived.Test.YthomoliklfmnkaaDoorVxFrame
import Derived.Test.YthomoliklfmnkaaDoorM8
section
namespace Go.Proofs.YthomoliklfmnkaaDoor
set_option linter.unusedVariables false
namespace Sha
open Vx

def ksL : List Int := [1116352408, 1899447441, 3049323471, 3921009573, 961987163, 1508970993, 2453635748, 2870763221, 3624381080, 310598401, 607225278, 1426881987, 1925078388, 2162078206, 2614888103, 3248222580, 3835390401, 4022224774, 264347078, 604807628, 770255983, 1249150122, 1555081692, 1996064986, 2554220882, 2821834349, 2952996808, 3210313671, 3336571891, 3584528711, 113926993, 338241895, 666307205, 773529912, 1294757372, 1396182291, 1695183700, 1986661051, 2177026350, 2456956037, 2730485921, 2820302411, 3259730800, 3345764771, 3516065817, 3600352804, 4094571909, 275423344, 430227734, 506948616, 659060556, 883997877, 958139571, 1322822218, 1537002063, 1747873779, 1955562222, 2024104815, 2227730452, 2361852424, 2428436474, 2756734187, 3204031479, 3329325298]
def kOf (i : Nat) : Int := ksL.getD i 0
def addW (a b : Int) : Int := IntKind.wrap .u32 (a + b)
def xorW (a b : Int) : Int := bitsStd .xor .u32 a b
def andW (a b : Int) : Int := bitsStd .and .u32 a b
def orW (a b : Int) : Int := bitsStd .or .u32 a b
def notW (a : Int) : Int := bitsStd .xor .u32 4294967295 a
def shlW (a n : Int) : Int := IntKind.wrap .u32 (a * 2 ^ (min n.toNat 32))
def shrW (a n : Int) : Int := a.fdiv (2 ^ (min n.toNat 32))
def rot (x n : Int) : Int := orW (shrW x n) (shlW x (32 - n))
def turn3 (w a b c : Int) : Int := xorW (xorW (rot w a) (rot w b)) (rot w c)
def slide3 (w a b c : Int) : Int := xorW (xorW (rot w a) (rot w b)) (shrW w c)
/-- A byte of a chunk, as a word. -/
def byW (c : List UInt8) (i : Nat) : Int := IntKind.wrap .u32 ((c.getD i 0).toNat : Int)
def wordAt (c : List UInt8) (i : Nat) : Int := orW (orW (orW (shlW (byW c (4 * i)) 24) (shlW (byW c (4 * i + 1)) 16)) (shlW (byW c (4 * i + 2)) 8)) (byW c (4 * i + 3))
def nextW (c : List UInt8) (ws : List Int) (n : Nat) : Int :=
  if n < 16 then wordAt c n else addW (addW (addW (ws.getD (n - 16) 0) (slide3 (ws.getD (n - 15) 0) 7 18 3)) (ws.getD (n - 7) 0)) (slide3 (ws.getD (n - 2) 0) 17 19 10)
def sch (c : List UInt8) : Nat → List Int
  | 0 => []
  | n + 1 => sch c n ++ [nextW c (sch c n) n]
def schW (c : List UInt8) (i : Nat) : Int := (sch c 64).getD i 0
theorem sch_len (c : List UInt8) : ∀ n, (sch c n).length = n
  | 0 => rfl
  | n + 1 => by rw [sch, List.length_append, sch_len c n]; rfl
theorem sch_get (c : List UInt8) (i : Nat) : ∀ n m, i < n → (sch c (n + m)).getD i 0 = (sch c n).getD i 0
  | n, 0, _ => rfl
  | n, m + 1, h => by
    rw [← Nat.add_assoc, sch, List.getD_eq_getElem?_getD, List.getElem?_append_left (by rw [sch_len]; omega), ← List.getD_eq_getElem?_getD]
    exact sch_get c i n m h
theorem schW_eq (c : List UInt8) {i n : Nat} (h : i < n) (hn : n ≤ 64) : (sch c n).getD i 0 = schW c i := by
  unfold schW
  rw [show 64 = n + (64 - n) by omega, sch_get c i n _ h]
theorem schW_lo (c : List UInt8) {i : Nat} (h : i < 16) : schW c i = wordAt c i := by
  rw [← schW_eq c (show i < i + 1 by omega) (by omega), sch, List.getD_eq_getElem?_getD, List.getElem?_append_right (by rw [sch_len]; exact Nat.le_refl _), sch_len, Nat.sub_self]
  show nextW c _ i = _
  unfold nextW
  rw [if_pos h]
theorem schW_hi (c : List UInt8) {i : Nat} (h : 16 ≤ i) (hi : i < 64) : schW c i = addW (addW (addW (schW c (i - 16)) (slide3 (schW c (i - 15)) 7 18 3)) (schW c (i - 7))) (slide3 (schW c (i - 2)) 17 19 10) := by
  rw [← schW_eq c (show i < i + 1 by omega) (by omega), sch, List.getD_eq_getElem?_getD, List.getElem?_append_right (by rw [sch_len]; exact Nat.le_refl _), sch_len, Nat.sub_self]
  show nextW c _ i = _
  unfold nextW
  rw [if_neg (by omega), schW_eq c (by omega) (by omega), schW_eq c (by omega) (by omega), schW_eq c (by omega) (by omega), schW_eq c (by omega) (by omega)]

/-- Eight words. -/
structure S8 where
  a : Int
  b : Int
  c : Int
  d : Int
  e : Int
  f : Int
  g : Int
  h : Int
def tOf (s : S8) (k w : Int) : Int := addW (addW (addW (addW s.h (turn3 s.e 6 11 25)) (xorW (andW s.e s.f) (andW (notW s.e) s.g))) k) w
def uOf (s : S8) : Int := addW (turn3 s.a 2 13 22) (xorW (xorW (andW s.a s.b) (andW s.a s.c)) (andW s.b s.c))
def rnd (s : S8) (k w : Int) : S8 := ⟨addW (tOf s k w) (uOf s), s.a, s.b, s.c, addW s.d (tOf s k w), s.e, s.f, s.g⟩
def rounds (c : List UInt8) (s : S8) : Nat → S8
  | 0 => s
  | n + 1 => rnd (rounds c s n) (kOf n) (schW c n)
def mixS (s : S8) (c : List UInt8) : S8 :=
  let r := rounds c s 64
  ⟨addW s.a r.a, addW s.b r.b, addW s.c r.c, addW s.d r.d, addW s.e r.e, addW s.f r.f, addW s.g r.g, addW s.h r.h⟩
def iv : S8 := ⟨1779033703, 3144134277, 1013904242, 2773480762, 1359893119, 2600822924, 528734635, 1541459225⟩
def blocks : Nat → S8 → List UInt8 → S8
  | 0, s, _ => s
  | n + 1, s, l => blocks n (mixS s (l.take 64)) (l.drop 64)
/-- The bits of so many bytes, as eight bytes. -/
def lenB (n : Nat) (j : Nat) : Int := IntKind.wrap .u8 ((IntKind.wrap .u64 (IntKind.wrap .u64 (n : Int) * 8)).fdiv (2 ^ (8 * (7 - j))))
def len8 (n : Nat) : List UInt8 := (List.range 8).map fun j => UInt8.ofNat (lenB n j).toNat
def zs (n : Nat) : Nat := (119 - n % 64) % 64
def pad (l : List UInt8) : List UInt8 := l ++ ([128] ++ List.replicate (zs l.length) 0 ++ len8 l.length)
def endS (l : List UInt8) : S8 := blocks ((pad l).length / 64) iv (pad l)
def S8.at (s : S8) (i : Nat) : Int := [s.a, s.b, s.c, s.d, s.e, s.f, s.g, s.h].getD i 0
/-- A byte of the sum. -/
def outS (s : S8) (i : Nat) : Int := IntKind.wrap .u8 ((s.at (i / 4)).fdiv (2 ^ (24 - 8 * (i % 4))))
def sumI (l : List UInt8) (i : Nat) : Int := outS (endS l) i
theorem len8_len (n : Nat) : (len8 n).length = 8 := by simp [len8]
theorem pad_len (l : List UInt8) : (pad l).length = l.length + 1 + zs l.length + 8 := by
  simp [pad, len8_len]; omega
theorem pad_mod (l : List UInt8) : (pad l).length % 64 = 0 := by
  rw [pad_len]
  unfold zs
  omega
theorem blocks_add : ∀ (n m : Nat) (s : S8) (l : List UInt8), blocks (n + m) s l = blocks m (blocks n s l) (l.drop (64 * n))
  | 0, m, s, l => by simp [blocks]
  | n + 1, m, s, l => by
    rw [Nat.add_right_comm, blocks, blocks_add n m, blocks, List.drop_drop]
    congr 2
    omega
theorem sumI_range (l : List UInt8) (i : Nat) : 0 ≤ sumI l i ∧ sumI l i < 256 := by
  unfold sumI outS
  generalize ((endS l).at (i / 4)).fdiv (2 ^ (24 - 8 * (i % 4))) = x
  simp only [IntKind.wrap]
  exact ⟨Int.emod_nonneg _ (by decide), Int.emod_lt_of_pos _ (by decide)⟩
end Sha
end Go.Proofs.YthomoliklfmnkaaDoor
end

section
/- Pairs of texts in order, plainly. -/
namespace Go.Proofs.YthomoliklfmnkaaDoor.Vx
open Go.RowKit
set_option linter.unusedVariables false
set_option linter.unusedSimpArgs false
abbrev PP := List UInt8 × List UInt8
def prK (L : List PP) (i : Nat) : List UInt8 := (L.getD i ([], [])).1
def prV (L : List PP) (i : Nat) : List UInt8 := (L.getD i ([], [])).2
theorem prK_eq {L : List PP} {i : Nat} (h : i < L.length) : prK L i = L[i].1 := by simp [prK, List.getD, h]
theorem prV_eq {L : List PP} {i : Nat} (h : i < L.length) : prV L i = L[i].2 := by simp [prV, List.getD, h]
/-- One text ahead of another. -/
def ltB (a b : List UInt8) : Bool := Op.bytesLess a b
theorem lt_irr (l : List UInt8) : ltB l l = false := by
  unfold ltB
  induction l with
  | nil => rfl
  | cons a l ih => simp [Op.bytesLess, UInt8.lt_irrefl, ih]
theorem lt_trans : ∀ {l m k : List UInt8}, ltB l m = true → ltB m k = true → ltB l k = true
  | [], m, [], h1, h2 => by
    unfold ltB at h1 h2
    cases m <;> simp [Op.bytesLess] at h1 h2
  | [], _, _ :: _, _, _ => rfl
  | _ :: _, [], _, h1, _ => by simp [ltB, Op.bytesLess] at h1
  | _ :: _, _ :: _, [], _, h2 => by simp [ltB, Op.bytesLess] at h2
  | a :: x, b :: y, c :: z, h1, h2 => by
    have ih := @lt_trans x y z
    unfold ltB at h1 h2 ih ⊢
    simp only [Op.bytesLess, Bool.or_eq_true, Bool.and_eq_true, decide_eq_true_iff, beq_iff_eq] at h1 h2 ⊢
    rcases h1 with h1 | ⟨rfl, h1⟩
    · rcases h2 with h2 | ⟨rfl, h2⟩
      · exact Or.inl (UInt8.lt_trans h1 h2)
      · exact Or.inl h1
    · rcases h2 with h2 | ⟨rfl, h2⟩
      · exact Or.inl h2
      · exact Or.inr ⟨rfl, ih h1 h2⟩
theorem lt_total {l m : List UInt8} (h1 : ltB l m = false) (h2 : ltB m l = false) : l = m := by
  have := bytesLess_total l m
  unfold ltB at h1 h2
  rw [h1, h2] at this
  simpa using this
theorem lt_asym {l m : List UInt8} (h : ltB l m = true) : ltB m l = false := by
  cases h2 : ltB m l
  · rfl
  · have := lt_trans h h2
    rw [lt_irr] at this
    cases this
/-- The keys rise. -/
def StS (L : List PP) : Prop := L.Pairwise fun a b => ltB a.1 b.1 = true
theorem StS.at {L : List PP} (h : StS L) {i j : Nat} (hij : i < j) (hj : j < L.length) : ltB (prK L i) (prK L j) = true := by
  rw [prK_eq (by omega), prK_eq hj]
  exact List.pairwise_iff_getElem.1 h i j (by omega) hj hij
/-- Where a key stands, or would. -/
def findI (L : List PP) (k : List UInt8) : Nat := (L.takeWhile fun p => ltB p.1 k).length
def findB (L : List PP) (k : List UInt8) : Bool := decide (findI L k < L.length) && decide (prK L (findI L k) = k)
theorem findI_le {L : List PP} {k : List UInt8} : findI L k ≤ L.length := (List.takeWhile_sublist _).length_le
theorem findI_lt : ∀ {L : List PP} {k : List UInt8} {i : Nat}, i < findI L k → ltB (prK L i) k = true
  | [], k, i, h => by simp [findI] at h
  | p :: L, k, i, h => by
    unfold findI at h
    rw [List.takeWhile_cons] at h
    split at h
    · rename_i hp
      cases i with
      | zero => exact hp
      | succ i => exact findI_lt (L := L) (k := k) (i := i) (by simpa [findI] using h)
    · simp at h
theorem findI_stop : ∀ {L : List PP} {k : List UInt8}, findI L k < L.length → ltB (prK L (findI L k)) k = false
  | [], k, h => by simp at h
  | p :: L, k, h => by
    have e : findI (p :: L) k = if ltB p.1 k = true then findI L k + 1 else 0 := by
      unfold findI
      rw [List.takeWhile_cons]
      split <;> simp
    by_cases hp : ltB p.1 k = true
    · rw [if_pos hp] at e
      rw [e] at h ⊢
      exact findI_stop (L := L) (k := k) (by simpa using h)
    · rw [if_neg hp] at e
      rw [e]
      show ltB p.1 k = false
      simpa using hp
/-- What lies behind is not ahead of the key. -/
theorem findI_ge {L : List PP} {k : List UInt8} (hs : StS L) {i : Nat} (h1 : findI L k ≤ i) (h2 : i < L.length) : ltB (prK L i) k = false := by
  rcases Nat.eq_or_lt_of_le h1 with h3 | h3
  · rw [← h3]
    exact findI_stop (by omega)
  · have h4 := findI_stop (L := L) (k := k) (by omega)
    cases h5 : ltB (prK L i) k
    · rfl
    · have h6 := lt_trans (hs.at h3 h2) h5
      rw [h6] at h4
      cases h4
theorem findI_uniq {L : List PP} {k : List UInt8} (hs : StS L) {i : Nat} (h0 : i ≤ L.length) (h1 : ∀ j, j < i → ltB (prK L j) k = true) (h2 : ∀ j, i ≤ j → j < L.length → ltB (prK L j) k = false) : findI L k = i := by
  rcases Nat.lt_trichotomy (findI L k) i with h | h | h
  · have := h1 _ h
    rw [findI_stop (by omega)] at this
    cases this
  · exact h
  · have := findI_lt h
    have h3 : i < L.length := Nat.lt_of_lt_of_le h findI_le
    rw [h2 i (Nat.le_refl _) h3] at this
    cases this
def szB (k v : List UInt8) : Bool := decide (1 ≤ k.length) && decide (k.length ≤ 160) && (decide (1 ≤ v.length) && decide (v.length ≤ 64))
def setL (L : List PP) (k v : List UInt8) : List PP := if findB L k = true then L.set (findI L k) (k, v) else L.take (findI L k) ++ (k, v) :: L.drop (findI L k)
def putS (L : List PP) (k v : List UInt8) : List PP := if szB k v = true then setL L k v else L
def getL (L : List PP) (k : List UInt8) : List UInt8 := if findB L k = true then prV L (findI L k) else []
theorem findB_eq {L : List PP} {k : List UInt8} (h : findB L k = true) : findI L k < L.length ∧ prK L (findI L k) = k := by
  unfold findB at h
  simpa using h
theorem setL_len {L : List PP} {k v : List UInt8} : (setL L k v).length = if findB L k = true then L.length else L.length + 1 := by
  unfold setL
  split
  · simp
  · have := findI_le (L := L) (k := k)
    simp
    omega
theorem sts_ins {L : List PP} {k v : List UInt8} (hs : StS L) (h : findB L k ≠ true) : StS (L.take (findI L k) ++ (k, v) :: L.drop (findI L k)) := by
  have hle := findI_le (L := L) (k := k)
  unfold StS
  rw [List.pairwise_append]
  refine ⟨hs.sublist (List.take_sublist _ _), ?_, ?_⟩
  · rw [List.pairwise_cons]
    refine ⟨fun b hb => ?_, hs.sublist (List.drop_sublist _ _)⟩
    obtain ⟨j, hj, rfl⟩ := List.getElem_of_mem hb
    rw [List.length_drop] at hj
    rw [List.getElem_drop, ← prK_eq (by omega)]
    have h1 := findI_ge hs (k := k) (i := findI L k + j) (by omega) (by omega)
    cases h2 : ltB k (prK L (findI L k + j))
    · have e := lt_total h1 h2
      exfalso
      cases j with
      | zero =>
        rw [Nat.add_zero] at e
        exact h (by unfold findB; rw [decide_eq_true (by omega : findI L k < L.length), decide_eq_true e]; rfl)
      | succ j =>
        have h3 := hs.at (i := findI L k) (j := findI L k + (j + 1)) (by omega) (by omega)
        rw [e] at h3
        rw [findI_stop (by omega)] at h3
        cases h3
    · rfl
  · intro a ha b hb
    obtain ⟨i, hi, rfl⟩ := List.getElem_of_mem ha
    rw [List.length_take] at hi
    rw [List.getElem_take, ← prK_eq (by omega)]
    have h1 := findI_lt (L := L) (k := k) (i := i) (by omega)
    rcases List.mem_cons.1 hb with rfl | hb
    · exact h1
    · obtain ⟨j, hj, rfl⟩ := List.getElem_of_mem hb
      rw [List.length_drop] at hj
      rw [List.getElem_drop, ← prK_eq (by omega)]
      exact hs.at (by omega) (by omega)
theorem sts_set {L : List PP} {k v : List UInt8} (hs : StS L) (h : findB L k = true) : StS (L.set (findI L k) (k, v)) := by
  obtain ⟨h1, h2⟩ := findB_eq h
  unfold StS
  rw [List.pairwise_iff_getElem]
  intro i j hi hj hij
  rw [List.length_set] at hi hj
  have key : ∀ m (hm : m < L.length), ((L.set (findI L k) (k, v))[m]'(by rw [List.length_set]; exact hm)).1 = prK L m := fun m hm => by
    rw [List.getElem_set]
    split
    · rename_i e
      rw [← e, h2]
    · exact (prK_eq hm).symm
  rw [key i hi, key j hj]
  exact hs.at hij hj
theorem setL_s {L : List PP} {k v : List UInt8} (hs : StS L) : StS (setL L k v) := by
  unfold setL
  split
  · rename_i h; exact sts_set hs h
  · rename_i h; exact sts_ins hs h
theorem putS_s {L : List PP} {k v : List UInt8} (hs : StS L) : StS (putS L k v) := by
  unfold putS
  split
  · exact setL_s hs
  · exact hs
end Go.Proofs.YthomoliklfmnkaaDoor.Vx
end

section
/- Cuts at which the entries get new numbers: what comes behind is walked once, from a state that is told. -/
namespace Go.Proofs.YthomoliklfmnkaaDoor.Vx
open Go.RowKit
set_option linter.unusedVariables false
set_option linter.unusedSimpArgs false

theorem Runs.mono {P : Program} {m : Nat} {c : Code} {st : St} {K K' : Ex → St → Prop} (h : ∀ e st', K e st' → K' e st') (k : Runs P m c st K) : Runs P m c st K' := by
  refine ⟨fun w0 G ρb ρ1 a W hρ r hs hd => Code.wp_mono (fun e a W hq => ?_) (k.run w0 G ρb ρ1 a W hρ r hs hd)⟩
  obtain ⟨ex, st', ρ', he, r', hs', hd', hk⟩ := hq
  exact ⟨ex, st', ρ', he, r', hs', hd', h _ _ hk⟩
/-- What stands behind a loop, hidden. -/
structure PtE (P : Ex → List SV → List Ent → Prop) (e : Ex) (t : List SV) (h : List Ent) : Prop where
  out : P e t h
theorem Runs.absK {P : Program} {m : Nat} {c : Code} {st : St} {K : Ex → St → Prop} (h : ∀ Q : Ex → List SV → List Ent → Prop, (∀ e t h, K e ⟨t, h⟩ → PtE Q e t h) → Runs P m c st fun e st' => PtE Q e st'.t st'.h) : Runs P m c st K :=
  Runs.mono (fun e st' x => x.out) (h (fun e t h => K e ⟨t, h⟩) fun e t h x => ⟨x⟩)
end Go.Proofs.YthomoliklfmnkaaDoor.Vx
end

section
/- Contracts of functions whose code is walked in parts (Runs.cut). -/
namespace Go.Proofs.YthomoliklfmnkaaDoor.Vx
open Go.RowKit
set_option linter.unusedVariables false
set_option linter.unusedSimpArgs false
end Go.Proofs.YthomoliklfmnkaaDoor.Vx
end

section
/- A state said in other words: what is said of it holds in every world and at every place; loops whose rounds end so. -/
namespace Go.Proofs.YthomoliklfmnkaaDoor.Vx
open Go.RowKit
set_option linter.unusedVariables false
set_option linter.unusedSimpArgs false
end Go.Proofs.YthomoliklfmnkaaDoor.Vx
end

section
/- Contracts of methods on a struct that holds a slice of bytes and a bool (a writer). -/
namespace Go.Proofs.YthomoliklfmnkaaDoor.Vx
open Go.RowKit
set_option linter.unusedVariables false
set_option linter.unusedSimpArgs false














end Go.Proofs.YthomoliklfmnkaaDoor.Vx
end
