/- Readers, by the walker. -/
import Derived.Test.YthomoliklfmnkaaM15
import Derived.Test.YthomoliklfmnkaaM9
import Derived.Test.YthomoliklfmnkaaM21
import Derived.Test.YthomoliklfmnkaaM1
import Derived.Test.YthomoliklfmnkaaM17
import Derived.Test.YthomoliklfmnkaaLebWalks
import Derived.Lib.BufferWrite
import Derived.Lib.UnsafeStr
import Derived.Test.YthomoliklfmnkaaM18
section
namespace Go.Proofs.Ythomoliklfmnkaa
open Go.RowKit
set_option linter.unusedVariables false
set_option linter.unusedSimpArgs false




namespace Vx























end Vx
end Go.Proofs.Ythomoliklfmnkaa
end

section
/- Packets read, by the walker. -/
namespace Go.Proofs.Ythomoliklfmnkaa
open Go.RowKit
set_option linter.unusedVariables false
set_option linter.unusedSimpArgs false
/-! What is read of the bytes l from a state on: a value, the state. -/
namespace Vx






end Vx
end Go.Proofs.Ythomoliklfmnkaa
end

section
/- What packets are written as is read back, plainly. -/
namespace Go.Proofs.Ythomoliklfmnkaa
open Go.RowKit
set_option linter.unusedVariables false
set_option linter.unusedSimpArgs false

def pkB (p : Pkt) : List UInt8 := (textB p.sp ++ Leb.put p.sc) ++ ((textB p.dp ++ Leb.put p.dc) ++ (Leb.put p.seq ++ (textB p.data ++ (Leb.put p.th ++ Leb.put p.ta))))
def pkV (p : Pkt) : Prop := ((p.sp.length : Int) ≤ 12 ∧ (0 ≤ p.sc ∧ p.sc ≤ 999)) ∧ (((p.dp.length : Int) ≤ 12 ∧ (0 ≤ p.dc ∧ p.dc ≤ 999)) ∧ ((1 ≤ p.seq ∧ p.seq ≤ 1099511627776) ∧ ((p.data.length : Int) ≤ 200 ∧ ((0 ≤ p.th ∧ p.th ≤ 1099511627776) ∧ (0 ≤ p.ta ∧ p.ta ≤ 1099511627776)))))

theorem mayPk_V {p : Pkt} (h : mayPkt p = true) : pkV p := by
  unfold mayPkt at h
  simp only [Bool.and_eq_true, decide_eq_true_eq, between] at h
  obtain ⟨⟨⟨⟨⟨h1, h2⟩, h3⟩, h4⟩, h5⟩, h6⟩ := h
  obtain ⟨a1, a2, a3⟩ := mayEnd_facts h1
  obtain ⟨b1, b2, b3⟩ := mayEnd_facts h2
  refine ⟨⟨by omega, by omega, by omega⟩, ⟨by omega, by omega, by omega⟩, h3, by omega, h5, h6⟩
theorem put_ne {v : Int} (h0 : 0 ≤ v) (h1 : v ≤ 72057594037927935) : Leb.put v ≠ [] := by
  have := (Leb.put_len v h0 h1).1
  intro e
  rw [e] at this
  simp at this
theorem wN_ok {v : Int} {l : List UInt8} (h0 : 0 ≤ v) (h1 : v ≤ 72057594037927935) : wN v (l, false) = (l ++ Leb.put v, false) := by
  simp [wN, numW, numBad, putW, put_ne h0 h1]
theorem wT_ok {m : List UInt8} {l : List UInt8} (h : (m.length : Int) ≤ 72057594037927935) : wT m (l, false) = (l ++ textB m, false) := by
  simp [wT, textW, textB, numW, numBad, putW, put_ne (show 0 ≤ (m.length : Int) by omega) h]
theorem wPk_ok {p : Pkt} {l : List UInt8} (h : pkV p) : wPk p (l, false) = (l ++ pkB p, false) := by
  obtain ⟨⟨h1, h2, h3⟩, ⟨h4, h5, h6⟩, ⟨h7, h8⟩, h9, ⟨h10, h11⟩, h12, h13⟩ := h
  unfold wPk
  rw [wT_ok (by omega), wN_ok (by omega) (by omega), wT_ok (by omega), wN_ok (by omega) (by omega), wN_ok (by omega) (by omega), wT_ok (by omega), wN_ok (by omega) (by omega), wN_ok (by omega) (by omega)]
  simp [pkB]

end Go.Proofs.Ythomoliklfmnkaa
end

section
/- The document's own readers, by the walker. -/
namespace Go.Proofs.Ythomoliklfmnkaa
open Go.RowKit
set_option linter.unusedVariables false
set_option linter.unusedSimpArgs false

theorem textB_len (m : List UInt8) : (textB m).length ≤ m.length + 8 := by
  have := Leb.put_len_le m.length
  unfold textB
  rw [List.length_append]
  omega

namespace Vx







end Vx
end Go.Proofs.Ythomoliklfmnkaa
end

section
/- Sums written and read, by the walker (without the place At). -/
namespace Go.Proofs.Ythomoliklfmnkaa.Vx
def tbW : Tbl where
  T :=
    (3, ⟨1, false, [.int .i64 (0)], .int .i64, 8⟩) ::
    (4, ⟨1, false, [.ff], .bool, 1⟩) ::
    (9, ⟨1, false, [.str []], .str, 16⟩) ::
    (5, ⟨1, false, [.int .u8 (0)], .int .u8, 1⟩) ::
    (127, ⟨1, false, [.int .u64 (0)], .int .u64, 8⟩) ::
    (113, ⟨1, false, [.val (.slice none 0 0)], .slice 5, 24⟩) ::
    (27, ⟨1, false, [.int .i64 (0)], .int .i64, 8⟩) ::
    (49, ⟨32, true, [.int .u8 (0), .int .u8 (0), .int .u8 (0), .int .u8 (0), .int .u8 (0), .int .u8 (0), .int .u8 (0), .int .u8 (0), .int .u8 (0), .int .u8 (0), .int .u8 (0), .int .u8 (0), .int .u8 (0), .int .u8 (0), .int .u8 (0), .int .u8 (0), .int .u8 (0), .int .u8 (0), .int .u8 (0), .int .u8 (0), .int .u8 (0), .int .u8 (0), .int .u8 (0), .int .u8 (0), .int .u8 (0), .int .u8 (0), .int .u8 (0), .int .u8 (0), .int .u8 (0), .int .u8 (0), .int .u8 (0), .int .u8 (0)], .array 32 5, 32⟩) ::
    (120, ⟨2, true, [.val (.slice none 0 0), .ff], .struct [(0, (1, false)), (1, (1, false))], 32⟩) ::
    (105, ⟨1, false, [.val (.pointer none)], .ptr 120, 8⟩) ::
    []
  F :=
    (49, [0, 0, 0, 0, 0, 0, 0, 0, 0, 0, 0, 0, 0, 0, 0, 0, 0, 0, 0, 0, 0, 0, 0, 0, 0, 0, 0, 0, 0, 0, 0, 0]) ::
    []
  sym := true

theorem tbW_ok : tbW.Ok Try.prog where
  T :=
    TblOk.cons (by kernel_rfl) <|
    TblOk.cons (by kernel_rfl) <|
    TblOk.cons (by kernel_rfl) <|
    TblOk.cons (by kernel_rfl) <|
    TblOk.cons (by kernel_rfl) <|
    TblOk.cons (by kernel_rfl) <|
    TblOk.cons (by kernel_rfl) <|
    TblOk.cons (by kernel_rfl) <|
    TblOk.cons (by kernel_rfl) <|
    TblOk.cons (by kernel_rfl) <|
    TblOk.nil _
  F :=
    FlatsOk.cons (FlatOk.of (D := .array 32 5) 6 (by decide) (by kernel_rfl) (by kernel_rfl) rfl (by kernel_rfl)) <|
    FlatsOk.nil _

end Go.Proofs.Ythomoliklfmnkaa.Vx
namespace Go.Proofs.Ythomoliklfmnkaa
open Go.RowKit
set_option linter.unusedVariables false
set_option linter.unusedSimpArgs false

namespace Vx
/-- A sum's bytes. -/
def hashOf (l : List Int) : List UInt8 := l.map fun n => UInt8.ofNat n.toNat
def sHashW : SpecW
  | l, b, [.agg [.int .u8 n0, .int .u8 n1, .int .u8 n2, .int .u8 n3, .int .u8 n4, .int .u8 n5, .int .u8 n6, .int .u8 n7, .int .u8 n8, .int .u8 n9, .int .u8 n10, .int .u8 n11, .int .u8 n12, .int .u8 n13, .int .u8 n14, .int .u8 n15, .int .u8 n16, .int .u8 n17, .int .u8 n18, .int .u8 n19, .int .u8 n20, .int .u8 n21, .int .u8 n22, .int .u8 n23, .int .u8 n24, .int .u8 n25, .int .u8 n26, .int .u8 n27, .int .u8 n28, .int .u8 n29, .int .u8 n30, .int .u8 n31]] => some (l.length ≤ 140737488355000, .tup [], putW l (hashOf [n0, n1, n2, n3, n4, n5, n6, n7, n8, n9, n10, n11, n12, n13, n14, n15, n16, n17, n18, n19, n20, n21, n22, n23, n24, n25, n26, n27, n28, n29, n30, n31]) b, b)
  | _, _, _ => none



set_option maxRecDepth 100000 in
set_option maxHeartbeats 400000 in
theorem hashWP : MethW Try.prog 85 120 5 sHashW := by
  refine MethW.of (E := tbW) (C := [(67, appW 120 5 sPut)]) [] 0 [] tbW_ok (CtsOk.cons (MethW.ct putP) <| CtsOk.nil _) (by kernel_rfl) Try.func85 rfl rfl rfl (by kernel_rfl) (by kernel_rfl) ?_ ?_
  · intro l b args pre r l' b' h
    unfold sHashW at h
    split at h
    · cases h; first | rfl | exact ⟨rfl, rfl⟩
    · cases h
  · intro l b args pre r l' b' h hp
    unfold sHashW at h
    split at h
    rotate_left
    · cases h
    rename_i n0 n1 n2 n3 n4 n5 n6 n7 n8 n9 n10 n11 n12 n13 n14 n15 n16 n17 n18 n19 n20 n21 n22 n23 n24 n25 n26 n27 n28 n29 n30 n31
    cases h
    unfold sPut
    generalize hg0 : putW = g0
    generalize hg1 : fitPut = g1
    generalize hg2 : hashOf = g2
    generalize hA : Arith.std = A
    cbv
    subst hA hg0 hg1 hg2
    refine Need.mk (show _ ≤ _ by simp; omega) fun _ => ?_
    exact ⟨rfl, trivial⟩




end Vx
end Go.Proofs.Ythomoliklfmnkaa
end

section
/- What leaves, proofs and messages are read as, and written as, plainly. -/
namespace Go.Proofs.Ythomoliklfmnkaa.Vx
set_option linter.unusedVariables false
set_option linter.unusedSimpArgs false
def hashV (h : List Int) : Prop := h.length = 32 ∧ ∀ b ∈ h, 0 ≤ b ∧ b < 256
theorem hashOf_len (h : List Int) : (hashOf h).length = h.length := by simp [hashOf]

/-! ### Leaves -/
def leafB (x : PLeaf) : List UInt8 := textB x.k ++ (textB x.v ++ (Leb.put x.i ++ (Leb.put (x.p.length : Int) ++ flatE hashOf x.p)))
def leafV (x : PLeaf) : Prop := (x.k.length : Int) ≤ 160 ∧ (x.v.length : Int) ≤ 64 ∧ (0 ≤ x.i ∧ x.i ≤ 1073741824) ∧ (0 ≤ (x.p.length : Int) ∧ (x.p.length : Int) ≤ 30) ∧ ∀ h ∈ x.p, hashV h

/-! ### Proofs -/
def proofB (p : Int × List PLeaf) : List UInt8 := Leb.put p.1 ++ (Leb.put (p.2.length : Int) ++ flatE leafB p.2)
def proofV (p : Int × List PLeaf) : Prop := (0 ≤ p.1 ∧ p.1 ≤ 1073741824) ∧ (0 ≤ (p.2.length : Int) ∧ (p.2.length : Int) ≤ 2) ∧ ∀ x ∈ p.2, leafV x

/-! ### Messages -/
def hdrB (z : Int × Int × List Int) : List UInt8 := Leb.put z.1 ++ (Leb.put z.2.1 ++ hashOf z.2.2)
def hdrV (z : Int × Int × List Int) : Prop := (1 ≤ z.1 ∧ z.1 ≤ 1099511627776) ∧ (0 ≤ z.2.1 ∧ z.2.1 ≤ 1099511627776) ∧ hashV z.2.2
/-- What comes behind the kind. -/
abbrev MRest := (Int × Int × List Int) × Pkt × List UInt8 × Int × Int × (Int × List PLeaf) × (Int × List PLeaf)
def restB (k : Int) (z : MRest) : List UInt8 :=
  (if decide (k = 1) then hdrB z.1 else []) ++ ((if decide (k ≠ 1) then pkB z.2.1 else []) ++ ((if decide (k = 3) then textB z.2.2.1 else []) ++ ((if nextB k then Leb.put z.2.2.2.1 else []) ++ ((if decide (k ≠ 1) then Leb.put z.2.2.2.2.1 else []) ++ ((if decide (k ≠ 1) then proofB z.2.2.2.2.2.1 else []) ++ (if decide (k = 5) then proofB z.2.2.2.2.2.2 else []))))))
def restV (k : Int) (z : MRest) : Prop :=
  (if decide (k = 1) then hdrV z.1 else z.1 = (0, 0, noRt)) ∧ ((if decide (k ≠ 1) then pkV z.2.1 else z.2.1 = noPkt) ∧ ((if decide (k = 3) then (z.2.2.1.length : Int) ≤ 32 else z.2.2.1 = []) ∧ ((if nextB k then 0 ≤ z.2.2.2.1 ∧ z.2.2.2.1 ≤ 1099511627777 else z.2.2.2.1 = 0) ∧ ((if decide (k ≠ 1) then 1 ≤ z.2.2.2.2.1 ∧ z.2.2.2.2.1 ≤ 1099511627776 else z.2.2.2.2.1 = 0) ∧ ((if decide (k ≠ 1) then proofV z.2.2.2.2.2.1 else z.2.2.2.2.2.1 = (0, [])) ∧ (if decide (k = 5) then proofV z.2.2.2.2.2.2 else z.2.2.2.2.2.2 = (0, [])))))))
def restOf (m : PMsg) : MRest := ((m.hh, m.ht, m.hr), m.pk, m.ack, m.next, m.height, (m.pc, m.pl), (m.cc, m.cl))
def msgB (m : PMsg) : List UInt8 := Leb.put m.kind ++ restB m.kind (restOf m)
def msgV (m : PMsg) : Prop := (1 ≤ m.kind ∧ m.kind ≤ 5) ∧ restV m.kind (restOf m)
def zeroMsg : PMsg := ⟨0, 0, 0, noRt, noPkt, [], 0, 0, 0, [], 0, []⟩

/-! ### Messages that may be are read back -/
theorem mayL_V {c : Int} {L : List PLeaf} (h : mayL c L = true) (ho : ∀ x ∈ L, x.ok) : proofV (c, L) := by
  simp only [mayL, Bool.and_eq_true, decide_eq_true_iff] at h
  obtain ⟨h1, h2, h3, h4⟩ := h
  refine ⟨⟨h1, h2⟩, ⟨by show (0 : Int) ≤ (L.length : Int); omega, by show (L.length : Int) ≤ 2; omega⟩, fun x hx => ?_⟩
  have hx : x ∈ L := hx
  obtain ⟨i, hi, rfl⟩ := List.getElem_of_mem hx
  have hm := mayAt_iff.1 (List.all_eq_true.1 h4 i (List.mem_range.2 hi))
  have e : L.getD i .none = L[i] := by simp [List.getD, hi]
  unfold lK lV lI lN lP at hm
  rw [e] at hm
  obtain ⟨⟨⟨a1, a2⟩, a3, a4⟩, a5, a6, a7⟩ := hm
  have := deep_30 c L[i].i
  exact ⟨by omega, by omega, ⟨a5, by omega⟩, ⟨by omega, by omega⟩, (ho _ hx).hs⟩
theorem mayM_V {m : PMsg} (h : mayM m = true) (ho : MsgOk m) : msgV m := by
  obtain ⟨k, hh, ht, hr, pk, ack, nx, hg, pc, pl, cc, cl⟩ := m
  unfold mayM at h
  simp only [Bool.and_eq_true] at h
  obtain ⟨hk, hs, h⟩ := h
  have hk : 1 ≤ k ∧ k ≤ 5 := by simpa [between] using hk
  have hs := of_decide_eq_true hs
  obtain ⟨⟨-, -, f3, f4⟩, po, co, -, -⟩ := ho
  dsimp only at h f3 f4 po co
  refine ⟨hk, ?_⟩
  have hk : k = 1 ∨ k = 2 ∨ k = 3 ∨ k = 4 ∨ k = 5 := by omega
  rcases hk with rfl | rfl | rfl | rfl | rfl
  · simp only [plainM, if_true, PMsg.mk.injEq, true_and] at hs
    obtain ⟨rfl, rfl, rfl, rfl, rfl, rfl, rfl, rfl⟩ := hs
    simp only [if_true, Bool.and_eq_true, between, decide_eq_true_iff] at h
    simp [restV, restOf, nextB]
    exact ⟨h.1, h.2, f3, f4⟩
  all_goals
    rw [if_neg (by decide)] at h
    simp only [Bool.and_eq_true] at h
    obtain ⟨h0, h1, h2, h3, h4, h5⟩ := h
    have h1 : 0 ≤ nx ∧ nx ≤ 1099511627777 := by simpa [between] using h1
    have h2 : 1 ≤ hg ∧ hg ≤ 1099511627776 := by simpa [between] using h2
    have h3 := mayPk_V h3
    have h4 := mayL_V h4 po
    have h5 := mayL_V h5 co
    simp [plainM] at hs
  · obtain ⟨rfl, rfl, rfl, rfl, rfl, rfl, rfl⟩ := hs
    simp [restV, restOf, nextB]
    exact ⟨h3, h2, h4⟩
  · obtain ⟨rfl, rfl, rfl, rfl, rfl, rfl⟩ := hs
    have h0 : 1 ≤ (ack.length : Int) ∧ (ack.length : Int) ≤ 32 := by simpa [between] using h0
    simp [restV, restOf, nextB]
    exact ⟨h3, by omega, h2, h4⟩
  · obtain ⟨rfl, rfl, rfl, rfl, rfl, rfl⟩ := hs
    simp [restV, restOf, nextB]
    exact ⟨h3, h1, h2, h4⟩
  · obtain ⟨rfl, rfl, rfl, rfl⟩ := hs
    simp [restV, restOf, nextB]
    exact ⟨h3, h1, h2, h4, h5⟩
theorem leafV_ok {x : PLeaf} (h : leafV x) : x.ok := ⟨by have := h.1; omega, by have := h.2.1; omega, by have := h.2.2.2.1.2; omega, h.2.2.2.2⟩
theorem proofV_ok {p : Int × List PLeaf} (h : proofV p) : (∀ x ∈ p.2, x.ok) ∧ p.2.length ≤ 2 := ⟨fun x hx => leafV_ok (h.2.2 x hx), by have := h.2.1.2; omega⟩
theorem pkV_fits {p : Pkt} (h : pkV p) : p.fits := by
  obtain ⟨⟨h1, -⟩, ⟨h2, -⟩, -, h3, -⟩ := h
  exact ⟨by omega, by omega, by omega⟩
theorem noPkt_fits : noPkt.fits := ⟨by decide, by decide, by decide⟩
theorem msgV_ok {m : PMsg} (h : msgV m) : MsgOk m := by
  obtain ⟨-, h1, h2, h3, h4, h5, h6, h7⟩ := h
  have a1 : hashV m.hr := by
    split at h1
    · exact h1.2.2
    · have : m.hr = noRt := congrArg (fun z : Int × Int × List Int => z.2.2) h1
      rw [this]; exact noRt_ok
  have a2 : m.pk.fits := by
    split at h2
    · exact pkV_fits h2
    · have : m.pk = noPkt := h2
      rw [this]; exact noPkt_fits
  have a3 : m.ack.length ≤ 1000000000 := by
    split at h3
    · have : (m.ack.length : Int) ≤ 32 := h3
      omega
    · have : m.ack = [] := h3
      rw [this]; decide
  have nl : ∀ x ∈ ([] : List PLeaf), x.ok := fun x hx => absurd hx (by simp)
  have a4 : (∀ x ∈ m.pl, x.ok) ∧ m.pl.length ≤ 2 := by
    split at h6
    · exact proofV_ok h6
    · have : m.pl = [] := congrArg (fun z : Int × List PLeaf => z.2) h6
      rw [this]; exact ⟨nl, by decide⟩
  have a5 : (∀ x ∈ m.cl, x.ok) ∧ m.cl.length ≤ 2 := by
    split at h7
    · exact proofV_ok h7
    · have : m.cl = [] := congrArg (fun z : Int × List PLeaf => z.2) h7
      rw [this]; exact ⟨nl, by decide⟩
  exact ⟨⟨a2, a3, a1.1, a1.2⟩, a4.1, a5.1, by omega, by omega⟩
theorem zeroMsg_ok : MsgOk zeroMsg := ⟨⟨noPkt_fits, by decide, noRt_ok.1, noRt_ok.2⟩, fun x hx => absurd hx (by simp [zeroMsg]), fun x hx => absurd hx (by simp [zeroMsg]), by decide, by decide⟩
/-- What a message is written as. -/
def encMsg (m : PMsg) : List UInt8 × Int := if mayM m then (msgB m, 0) else ([], 1)
theorem msgB_ne {m : PMsg} (h : mayM m = true) (ho : MsgOk m) : msgB m ≠ [] := by
  have hv := (mayM_V h ho).1
  intro e
  have := congrArg List.length e
  simp only [msgB, List.length_append, List.length_nil] at this
  exact put_ne (v := m.kind) (by omega) (by omega) (List.length_eq_zero_iff.mp (by omega))
end Go.Proofs.Ythomoliklfmnkaa.Vx
end
