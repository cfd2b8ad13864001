/- The document's own readers, by the walker. -/
import Derived.Test.YtcgoaicifjndpaaM28
import Derived.Test.YtcgoaicifjndpaaM12
import Derived.Test.YtcgoaicifjndpaaCodecL
import Derived.Test.YtcgoaicifjndpaaM24
section
namespace Go.Proofs.Ytcgoaicifjndpaa
open Go.RowKit
set_option linter.unusedVariables false
set_option linter.unusedSimpArgs false

theorem textB_len (m : List UInt8) : (textB m).length ≤ m.length + 8 := by
  have := Leb.put_len_le m.length
  unfold textB
  rw [List.length_append]
  omega

namespace Vx







end Vx
end Go.Proofs.Ytcgoaicifjndpaa
end

section
/- Sums written and read, by the walker (without the place At). -/
namespace Go.Proofs.Ytcgoaicifjndpaa.Vx
def tbW : Tbl where
  T :=
    (3, ⟨1, false, [.int .i64 (0)], .int .i64, 8⟩) ::
    (4, ⟨1, false, [.ff], .bool, 1⟩) ::
    (9, ⟨1, false, [.str []], .str, 16⟩) ::
    (5, ⟨1, false, [.int .u8 (0)], .int .u8, 1⟩) ::
    (194, ⟨1, false, [.int .u64 (0)], .int .u64, 8⟩) ::
    (188, ⟨1, false, [.val (.slice none 0 0)], .slice 5, 24⟩) ::
    (50, ⟨1, false, [.int .i64 (0)], .int .i64, 8⟩) ::
    (63, ⟨32, true, [.int .u8 (0), .int .u8 (0), .int .u8 (0), .int .u8 (0), .int .u8 (0), .int .u8 (0), .int .u8 (0), .int .u8 (0), .int .u8 (0), .int .u8 (0), .int .u8 (0), .int .u8 (0), .int .u8 (0), .int .u8 (0), .int .u8 (0), .int .u8 (0), .int .u8 (0), .int .u8 (0), .int .u8 (0), .int .u8 (0), .int .u8 (0), .int .u8 (0), .int .u8 (0), .int .u8 (0), .int .u8 (0), .int .u8 (0), .int .u8 (0), .int .u8 (0), .int .u8 (0), .int .u8 (0), .int .u8 (0), .int .u8 (0)], .array 32 5, 32⟩) ::
    (196, ⟨3, true, [.str [], .int .i64 (0), .int .i64 (0)], .struct [(0, (1, false)), (1, (1, false)), (2, (1, false))], 32⟩) ::
    (190, ⟨2, true, [.val (.slice none 0 0), .ff], .struct [(0, (1, false)), (1, (1, false))], 32⟩) ::
    (166, ⟨3, true, [.str [], .int .i64 (0), .int .i64 (0)], .struct [(0, (1, false)), (1, (1, false)), (2, (1, false))], 32⟩) ::
    (147, ⟨1, false, [.val (.pointer none)], .ptr 190, 8⟩) ::
    (153, ⟨1, false, [.val (.pointer none)], .ptr 196, 8⟩) ::
    []
  F :=
    (63, [0, 0, 0, 0, 0, 0, 0, 0, 0, 0, 0, 0, 0, 0, 0, 0, 0, 0, 0, 0, 0, 0, 0, 0, 0, 0, 0, 0, 0, 0, 0, 0]) ::
    []
  sym := true

theorem tbW_ok : tbW.Ok Try.prog where
  T :=
    TblOk.cons (by kernel_rfl) <|
    TblOk.cons (by kernel_rfl) <|
    TblOk.cons (by kernel_rfl) <|
    TblOk.cons (by kernel_rfl) <|
    TblOk.cons (by kernel_rfl) <|
    TblOk.cons (by kernel_rfl) <|
    TblOk.cons (by kernel_rfl) <|
    TblOk.cons (by kernel_rfl) <|
    TblOk.cons (by kernel_rfl) <|
    TblOk.cons (by kernel_rfl) <|
    TblOk.cons (by kernel_rfl) <|
    TblOk.cons (by kernel_rfl) <|
    TblOk.cons (by kernel_rfl) <|
    TblOk.nil _
  F :=
    FlatsOk.cons (FlatOk.of (D := .array 32 5) 6 (by decide) (by kernel_rfl) (by kernel_rfl) rfl (by kernel_rfl)) <|
    FlatsOk.nil _

end Go.Proofs.Ytcgoaicifjndpaa.Vx
namespace Go.Proofs.Ytcgoaicifjndpaa
open Go.RowKit
set_option linter.unusedVariables false
set_option linter.unusedSimpArgs false

/-- A byte of a text, as a number. -/
def byteI (l : List UInt8) (i : Nat) : Int := ((l.getD i 0).toNat : Int)
theorem byteI_range (l : List UInt8) (i : Nat) : 0 ≤ byteI l i ∧ byteI l i < 256 := by
  unfold byteI
  have := (l.getD i 0).toNat_lt
  omega
theorem cut_byte {l : List UInt8} {a : Int} (h0 : 0 ≤ a) (h : a + 32 ≤ l.length) (i : Nat) (hi : i < 32) : ((((l.take l.length).drop a.toNat).getD i 0).toNat : Int) = byteI (cut l a 32) i := by
  unfold byteI cut
  congr 2
  simp only [List.take_length, List.getD_eq_getElem?_getD, List.getElem?_drop, List.getElem?_take]
  rw [if_pos (by omega)]
theorem zero_byte (i : Nat) : byteI (List.replicate 32 0) i = 0 := by
  unfold byteI
  by_cases h : i < 32
  · rw [List.getD_eq_getElem?_getD, List.getElem?_replicate, if_pos h]; rfl
  · rw [List.getD_eq_getElem?_getD, List.getElem?_replicate, if_neg h]; rfl
theorem ok_hash {l : List UInt8} {a b : Int} (h : okRd l a b) : okRd l (hashS l a b).2.1 (hashS l a b).2.2 := by
  obtain ⟨h1, h2, h3, h4, h5⟩ := h
  unfold hashS okRd
  split
  · exact ⟨h1, h2, h3, h4, h5⟩
  · split
    · dsimp only; omega
    · dsimp only; omega
namespace Vx
/-- A sum's bytes. -/
def hashOf (l : List Int) : List UInt8 := l.map fun n => UInt8.ofNat n.toNat
def sHashW : SpecW
  | l, b, [.agg [.int .u8 n0, .int .u8 n1, .int .u8 n2, .int .u8 n3, .int .u8 n4, .int .u8 n5, .int .u8 n6, .int .u8 n7, .int .u8 n8, .int .u8 n9, .int .u8 n10, .int .u8 n11, .int .u8 n12, .int .u8 n13, .int .u8 n14, .int .u8 n15, .int .u8 n16, .int .u8 n17, .int .u8 n18, .int .u8 n19, .int .u8 n20, .int .u8 n21, .int .u8 n22, .int .u8 n23, .int .u8 n24, .int .u8 n25, .int .u8 n26, .int .u8 n27, .int .u8 n28, .int .u8 n29, .int .u8 n30, .int .u8 n31]] => some (l.length ≤ 140737488355000, .tup [], putW l (hashOf [n0, n1, n2, n3, n4, n5, n6, n7, n8, n9, n10, n11, n12, n13, n14, n15, n16, n17, n18, n19, n20, n21, n22, n23, n24, n25, n26, n27, n28, n29, n30, n31]) b, b)
  | _, _, _ => none

def sHash : Spec1
  | [.str l, .int .i64 a, .int .i64 b], [] => some (okRd l a b, .agg [.int .u8 (byteI (hashS l a b).1 0), .int .u8 (byteI (hashS l a b).1 1), .int .u8 (byteI (hashS l a b).1 2), .int .u8 (byteI (hashS l a b).1 3), .int .u8 (byteI (hashS l a b).1 4), .int .u8 (byteI (hashS l a b).1 5), .int .u8 (byteI (hashS l a b).1 6), .int .u8 (byteI (hashS l a b).1 7), .int .u8 (byteI (hashS l a b).1 8), .int .u8 (byteI (hashS l a b).1 9), .int .u8 (byteI (hashS l a b).1 10), .int .u8 (byteI (hashS l a b).1 11), .int .u8 (byteI (hashS l a b).1 12), .int .u8 (byteI (hashS l a b).1 13), .int .u8 (byteI (hashS l a b).1 14), .int .u8 (byteI (hashS l a b).1 15), .int .u8 (byteI (hashS l a b).1 16), .int .u8 (byteI (hashS l a b).1 17), .int .u8 (byteI (hashS l a b).1 18), .int .u8 (byteI (hashS l a b).1 19), .int .u8 (byteI (hashS l a b).1 20), .int .u8 (byteI (hashS l a b).1 21), .int .u8 (byteI (hashS l a b).1 22), .int .u8 (byteI (hashS l a b).1 23), .int .u8 (byteI (hashS l a b).1 24), .int .u8 (byteI (hashS l a b).1 25), .int .u8 (byteI (hashS l a b).1 26), .int .u8 (byteI (hashS l a b).1 27), .int .u8 (byteI (hashS l a b).1 28), .int .u8 (byteI (hashS l a b).1 29), .int .u8 (byteI (hashS l a b).1 30), .int .u8 (byteI (hashS l a b).1 31)], [.str l, .int .i64 (hashS l a b).2.1, .int .i64 (hashS l a b).2.2])
  | _, _ => none


set_option maxRecDepth 100000 in
set_option maxHeartbeats 400000 in
theorem hashWP : MethW Try.prog 155 190 5 sHashW := by
  refine MethW.of (E := tbW) (C := [(168, appW 190 5 sPut)]) [] 0 [] tbW_ok (CtsOk.cons (MethW.ct putP) <| CtsOk.nil _) (by kernel_rfl) Try.func155 rfl rfl rfl (by kernel_rfl) (by kernel_rfl) ?_ ?_
  · intro l b args pre r l' b' h
    unfold sHashW at h
    split at h
    · cases h; first | rfl | exact ⟨rfl, rfl⟩
    · cases h
  · intro l b args pre r l' b' h hp
    unfold sHashW at h
    split at h
    rotate_left
    · cases h
    rename_i n0 n1 n2 n3 n4 n5 n6 n7 n8 n9 n10 n11 n12 n13 n14 n15 n16 n17 n18 n19 n20 n21 n22 n23 n24 n25 n26 n27 n28 n29 n30 n31
    cases h
    unfold sPut
    generalize hg0 : putW = g0
    generalize hg1 : fitPut = g1
    generalize hg2 : hashOf = g2
    generalize hA : Arith.std = A
    cbv
    subst hA hg0 hg1 hg2
    refine Need.mk (show _ ≤ _ by simp; omega) fun _ => ?_
    exact ⟨rfl, trivial⟩

set_option maxRecDepth 100000 in
set_option maxHeartbeats 400000 in
theorem rdHashP : Meth Try.prog 158 196 sHash := by
  refine Meth.of (E := tbW) (C := [(171, appMeth 196 sFail)]) [2] 0 [(2, [(0, true), (1, true), (2, true), (3, true), (4, true), (5, true), (6, true), (7, true), (8, true), (9, true), (10, true)]), (6, [(0, true), (1, true), (2, true), (3, true), (4, true), (5, true), (6, true), (7, true), (8, true), (9, true), (10, true), (11, true), (12, true), (13, true), (14, false), (15, true), (1016, false), (16, true), (17, true), (18, false)])] tbW_ok (CtsOk.cons (Meth.ct failP) <| CtsOk.nil _) (by kernel_rfl) Try.func158 rfl rfl rfl (by kernel_rfl) (by kernel_rfl) ?_ ?_
  · intro cs args pre r cs' h
    unfold sHash at h
    split at h
    · cases h; first | rfl | exact ⟨rfl, rfl⟩
    · cases h
  · intro cs args pre r cs' h hp
    unfold sHash at h
    split at h
    rotate_left
    · cases h
    rename_i l a b
    cases h
    unfold sFail
    generalize hg0 : failS = g0
    generalize hg1 : hashS = g1
    generalize hg2 : byteI = g2
    generalize hg3 : okRd = g3
    generalize hg4 : (List.length : List UInt8 → Nat) = g4
    generalize hA : Arith.std = A
    cbv
    subst hA hg0 hg1 hg2 hg3 hg4
    obtain ⟨h1, h2, h3, h4, h5⟩ := hp
    refine Need.mk (show -9223372036854775808 ≤ (l.length : Int) - a ∧ (l.length : Int) - a ≤ 9223372036854775807 by omega) fun _ => ?_
    refine Ife.mk (fun h => ?_) (fun h => ?_)
    · have h : (l.length : Int) - a < 32 := of_decide_eq_true (p := (l.length : Int) - a < 32) h
      refine Need.mk trivial fun _ => ?_
      have hf : failS b 2 ≠ 0 := by
        unfold failS
        split
        · decide
        · assumption
      refine Ife.mk (fun _ => ?_) (fun h => absurd h (by simp [Arith.std, hf]))
      have hS : hashS l a b = (List.replicate 32 0, a, failS b 2) := by
        unfold hashS failS
        by_cases hb : b = 0
        · rw [if_neg (by simp [hb]), if_pos h, if_pos hb]
        · rw [if_pos hb, if_neg hb]
      rw [hS]
      exact ⟨⟨(zero_byte 0).symm, (zero_byte 1).symm, (zero_byte 2).symm, (zero_byte 3).symm, (zero_byte 4).symm, (zero_byte 5).symm, (zero_byte 6).symm, (zero_byte 7).symm, (zero_byte 8).symm, (zero_byte 9).symm, (zero_byte 10).symm, (zero_byte 11).symm, (zero_byte 12).symm, (zero_byte 13).symm, (zero_byte 14).symm, (zero_byte 15).symm, (zero_byte 16).symm, (zero_byte 17).symm, (zero_byte 18).symm, (zero_byte 19).symm, (zero_byte 20).symm, (zero_byte 21).symm, (zero_byte 22).symm, (zero_byte 23).symm, (zero_byte 24).symm, (zero_byte 25).symm, (zero_byte 26).symm, (zero_byte 27).symm, (zero_byte 28).symm, (zero_byte 29).symm, (zero_byte 30).symm, (zero_byte 31).symm, trivial⟩, ⟨rfl, rfl, trivial⟩, trivial⟩
    · have h : ¬ (l.length : Int) - a < 32 := of_decide_eq_false (p := (l.length : Int) - a < 32) h
      refine Ife.mk (fun hb => ?_) (fun hb => ?_)
      · have hb : b ≠ 0 := by simpa [Arith.std] using hb
        have hS : hashS l a b = (List.replicate 32 0, a, b) := by
          unfold hashS
          rw [if_pos hb]
        rw [hS]
        exact ⟨⟨(zero_byte 0).symm, (zero_byte 1).symm, (zero_byte 2).symm, (zero_byte 3).symm, (zero_byte 4).symm, (zero_byte 5).symm, (zero_byte 6).symm, (zero_byte 7).symm, (zero_byte 8).symm, (zero_byte 9).symm, (zero_byte 10).symm, (zero_byte 11).symm, (zero_byte 12).symm, (zero_byte 13).symm, (zero_byte 14).symm, (zero_byte 15).symm, (zero_byte 16).symm, (zero_byte 17).symm, (zero_byte 18).symm, (zero_byte 19).symm, (zero_byte 20).symm, (zero_byte 21).symm, (zero_byte 22).symm, (zero_byte 23).symm, (zero_byte 24).symm, (zero_byte 25).symm, (zero_byte 26).symm, (zero_byte 27).symm, (zero_byte 28).symm, (zero_byte 29).symm, (zero_byte 30).symm, (zero_byte 31).symm, trivial⟩, ⟨rfl, rfl, trivial⟩, trivial⟩
      · have hb : b = 0 := by simpa [Arith.std] using hb
        subst hb
        have hS : hashS l a 0 = (cut l a 32, a + 32, 0) := by
          unfold hashS
          rw [if_neg (by simp), if_neg h]
        have hc := fun i hi => cut_byte (l := l) h1 (by omega) i hi
        refine Need.mk (show 0 ≤ a ∧ a ≤ (l.length : Int) ∧ (l.length : Int) ≤ (l.length : Int) from ⟨h1, h2, by omega⟩) fun _ => ?_
        refine Need.mk (show 32 ≤ ((l.take (l.length : Int).toNat).drop a.toNat).length by simp; omega) fun _ => ?_
        refine Need.mk (show -9223372036854775808 ≤ a + 32 ∧ a + 32 ≤ 9223372036854775807 by omega) fun _ => ?_
        rw [hS]
        exact ⟨⟨hc 0 (by decide), hc 1 (by decide), hc 2 (by decide), hc 3 (by decide), hc 4 (by decide), hc 5 (by decide), hc 6 (by decide), hc 7 (by decide), hc 8 (by decide), hc 9 (by decide), hc 10 (by decide), hc 11 (by decide), hc 12 (by decide), hc 13 (by decide), hc 14 (by decide), hc 15 (by decide), hc 16 (by decide), hc 17 (by decide), hc 18 (by decide), hc 19 (by decide), hc 20 (by decide), hc 21 (by decide), hc 22 (by decide), hc 23 (by decide), hc 24 (by decide), hc 25 (by decide), hc 26 (by decide), hc 27 (by decide), hc 28 (by decide), hc 29 (by decide), hc 30 (by decide), hc 31 (by decide), trivial⟩, ⟨rfl, rfl, trivial⟩, trivial⟩



end Vx
end Go.Proofs.Ytcgoaicifjndpaa
end

section
/- What leaves, proofs and messages are read as, and written as, plainly. -/
namespace Go.Proofs.Ytcgoaicifjndpaa.Vx
set_option linter.unusedVariables false
set_option linter.unusedSimpArgs false
/-- The numbers of a sum's bytes. -/
def numsOf (l : List UInt8) : List Int := (List.range 32).map (byteI l)
def hashV (h : List Int) : Prop := h.length = 32 ∧ ∀ b ∈ h, 0 ≤ b ∧ b < 256
def rHash (l : List UInt8) (s : Int × Int) : List Int × Int × Int := (numsOf (hashS l s.1 s.2).1, (hashS l s.1 s.2).2)
theorem nums_ok (l : List UInt8) : hashV (numsOf l) := by
  refine ⟨by simp [numsOf], fun b hb => ?_⟩
  simp only [numsOf, List.mem_map] at hb
  obtain ⟨i, _, rfl⟩ := hb
  exact byteI_range l i
theorem nums_get (l : List UInt8) {j : Nat} (hj : j < 32) : (numsOf l).getD j 0 = byteI l j := by
  simp [numsOf, List.getD, hj]
theorem nums_hash {h : List Int} (hv : hashV h) : numsOf (hashOf h) = h := by
  apply List.ext_getElem (by simp [numsOf, hv.1])
  intro j h1 h2
  have hb := hv.2 _ (List.getElem_mem h2)
  have hl : j < (hashOf h).length := by simp [hashOf]; exact h2
  simp only [numsOf, List.getElem_map, List.getElem_range, byteI]
  rw [show (hashOf h).getD j 0 = (hashOf h)[j] by simp [List.getD, hl]]
  simp only [hashOf, List.getElem_map]
  have : (UInt8.ofNat h[j].toNat).toNat = h[j].toNat := by
    rw [UInt8.toNat_ofNat']
    omega
  rw [this]
  omega
theorem hash_nums {l : List UInt8} (h : l.length = 32) : hashOf (numsOf l) = l := by
  apply List.ext_getElem (by simp [hashOf, numsOf, h])
  intro j h1 h2
  simp only [hashOf, numsOf, List.getElem_map, List.getElem_range, byteI]
  rw [show l.getD j 0 = l[j] by simp [List.getD, h2]]
  simp
theorem hashOf_len (h : List Int) : (hashOf h).length = h.length := by simp [hashOf]
theorem codecHash : Codec rHash hashOf hashV where
  stick := fun l s hs => by
    unfold rHash hashS
    rw [if_pos hs]
  back := fun p h q hv => by
    have hl : (hashOf h).length = 32 := by rw [hashOf_len, hv.1]
    have hh : hashS (p ++ hashOf h ++ q) (p.length : Int) 0 = (hashOf h, (p.length : Int) + 32, 0) := by
      unfold hashS
      rw [if_neg (by simp), if_neg (by simp [hl]; omega)]
      have : cut (p ++ hashOf h ++ q) (p.length : Int) 32 = hashOf h := by
        unfold cut
        rw [List.append_assoc, Int.toNat_natCast, List.drop_left]
        have : (32 : Int).toNat = (hashOf h).length := by rw [hl]; rfl
        rw [this, List.take_left]
      rw [this]
    unfold rHash
    dsimp only
    rw [hh]
    dsimp only
    rw [nums_hash hv]
    simp [hl]
  one := fun l a x a' ha h => by
    unfold rHash at h
    dsimp only at h
    unfold hashS at h
    rw [if_neg (by simp)] at h
    split at h
    · simp at h
    · rename_i hn
      simp only [Prod.mk.injEq] at h
      obtain ⟨h1, h2, -⟩ := h
      have hc : (cut l (a : Int) 32).length = 32 := by
        unfold cut
        rw [List.length_take, List.length_drop]
        omega
      subst h1
      refine ⟨nums_ok _, l.take a, (l.drop a).drop 32, ?_, by simp; omega, ?_⟩
      · rw [hash_nums hc]
        have : cut l (a : Int) 32 = (l.drop a).take 32 := rfl
        rw [this, List.append_assoc, List.take_append_drop, List.take_append_drop]
      · rw [hash_nums hc, List.length_append, hc, List.length_take]
        omega
  short := fun p x k hx hk => by
    rw [hashOf_len, hx.1] at hk
    show (hashS (p ++ (hashOf x).take k) (p.length : Int) 0).2.2 = 2
    unfold hashS
    rw [if_neg (by simp), if_pos (by simp; omega)]

/-! ### Leaves -/
def rLeaf (l : List UInt8) (s : Int × Int) : PLeaf × Int × Int :=
  let k := rText 160 l s
  let v := rText 64 l k.2
  let i := rNum 0 1073741824 l v.2
  let n := rCount 30 l i.2
  let p := repR rHash n.1.toNat l n.2
  (⟨k.1, v.1, i.1, p.1⟩, p.2)
def leafB (x : PLeaf) : List UInt8 := textB x.k ++ (textB x.v ++ (Leb.put x.i ++ (Leb.put (x.p.length : Int) ++ flatE hashOf x.p)))
def leafV (x : PLeaf) : Prop := (x.k.length : Int) ≤ 160 ∧ (x.v.length : Int) ≤ 64 ∧ (0 ≤ x.i ∧ x.i ≤ 1073741824) ∧ (0 ≤ (x.p.length : Int) ∧ (x.p.length : Int) ≤ 30) ∧ ∀ h ∈ x.p, hashV h
theorem codecLeaf : Codec rLeaf leafB leafV :=
  ((Codec.text 160 (by decide)).bind fun _ => (Codec.text 64 (by decide)).bind fun _ => (Codec.num 0 1073741824 (by decide) (by decide)).bind fun _ => (Codec.count 30 (by decide)).bind fun n => codecHash.rep n.toNat).mapI
    (fun z => (⟨z.1, z.2.1, z.2.2.1, z.2.2.2.2⟩ : PLeaf))
    (fun z hz => by
      obtain ⟨k, v, i, n, p⟩ := z
      obtain ⟨h1, h2, h3, h4, h5, h6⟩ := hz
      dsimp only at h1 h2 h3 h4 h5
      have e : (p.length : Int) = n := by omega
      simp only [leafB, e]
      rfl)
    (fun y hy => ⟨(y.k, y.v, y.i, (y.p.length : Int), y.p), rfl, hy.1, hy.2.1, hy.2.2.1, hy.2.2.2.1, by simp, hy.2.2.2.2⟩)
    (fun z hz => by
      obtain ⟨k, v, i, n, p⟩ := z
      obtain ⟨h1, h2, h3, h4, h5, h6⟩ := hz
      dsimp only at h1 h2 h3 h4 h5
      have e : (p.length : Int) = n := by omega
      exact ⟨h1, h2, h3, by rw [e]; exact h4, h6⟩)

/-! ### Proofs -/
def rProof (l : List UInt8) (s : Int × Int) : (Int × List PLeaf) × Int × Int :=
  let c := rNum 0 1073741824 l s
  let n := rCount 2 l c.2
  let p := repR rLeaf n.1.toNat l n.2
  ((c.1, p.1), p.2)
def proofB (p : Int × List PLeaf) : List UInt8 := Leb.put p.1 ++ (Leb.put (p.2.length : Int) ++ flatE leafB p.2)
def proofV (p : Int × List PLeaf) : Prop := (0 ≤ p.1 ∧ p.1 ≤ 1073741824) ∧ (0 ≤ (p.2.length : Int) ∧ (p.2.length : Int) ≤ 2) ∧ ∀ x ∈ p.2, leafV x
theorem codecProof : Codec rProof proofB proofV :=
  ((Codec.num 0 1073741824 (by decide) (by decide)).bind fun _ => (Codec.count 2 (by decide)).bind fun n => codecLeaf.rep n.toNat).mapI
    (fun z => (z.1, z.2.2))
    (fun z hz => by
      obtain ⟨c, n, p⟩ := z
      obtain ⟨h1, h2, h3, h4⟩ := hz
      dsimp only at h1 h2 h3
      have e : (p.length : Int) = n := by omega
      simp only [proofB, e])
    (fun y hy => ⟨(y.1, (y.2.length : Int), y.2), rfl, hy.1, hy.2.1, by simp, hy.2.2⟩)
    (fun z hz => by
      obtain ⟨c, n, p⟩ := z
      obtain ⟨h1, h2, h3, h4⟩ := hz
      dsimp only at h1 h2 h3
      have e : (p.length : Int) = n := by omega
      exact ⟨h1, by rw [e]; exact h2, h4⟩)

/-! ### Messages -/
def rHdr (l : List UInt8) (s : Int × Int) : (Int × Int × List Int) × Int × Int :=
  let a := rNum 1 1099511627776 l s
  let b := rNum 0 1099511627776 l a.2
  let c := rHash l b.2
  ((a.1, b.1, c.1), c.2)
def hdrB (z : Int × Int × List Int) : List UInt8 := Leb.put z.1 ++ (Leb.put z.2.1 ++ hashOf z.2.2)
def hdrV (z : Int × Int × List Int) : Prop := (1 ≤ z.1 ∧ z.1 ≤ 1099511627776) ∧ (0 ≤ z.2.1 ∧ z.2.1 ≤ 1099511627776) ∧ hashV z.2.2
theorem codecHdr : Codec rHdr hdrB hdrV :=
  (Codec.num 1 1099511627776 (by decide) (by decide)).bind fun _ => (Codec.num 0 1099511627776 (by decide) (by decide)).bind fun _ => codecHash
/-- What comes behind the kind. -/
abbrev MRest := (Int × Int × List Int) × Pkt × List UInt8 × Int × Int × (Int × List PLeaf) × (Int × List PLeaf)
def msgK (k : Int) (z : MRest) : PMsg := ⟨k, z.1.1, z.1.2.1, z.1.2.2, z.2.1, z.2.2.1, z.2.2.2.1, z.2.2.2.2.1, z.2.2.2.2.2.1.1, z.2.2.2.2.2.1.2, z.2.2.2.2.2.2.1, z.2.2.2.2.2.2.2⟩
def rRest (k : Int) (l : List UInt8) (s : Int × Int) : MRest × Int × Int :=
  let h := rIf (decide (k = 1)) (0, 0, noRt) rHdr l s
  let p := rIf (decide (k ≠ 1)) noPkt rPk l h.2
  let a := rIf (decide (k = 3)) [] (rText 32) l p.2
  let n := rIf (nextB k) 0 (rNum 0 1099511627777) l a.2
  let g := rIf (decide (k ≠ 1)) 0 (rNum 1 1099511627776) l n.2
  let q := rIf (decide (k ≠ 1)) (0, []) rProof l g.2
  let c := rIf (decide (k = 5)) (0, []) rProof l q.2
  ((h.1, p.1, a.1, n.1, g.1, q.1, c.1), c.2)
def rMsg (l : List UInt8) (s : Int × Int) : PMsg × Int × Int :=
  let k := rNum 1 5 l s
  let z := rRest k.1 l k.2
  (msgK k.1 z.1, z.2)
def restB (k : Int) (z : MRest) : List UInt8 :=
  (if decide (k = 1) then hdrB z.1 else []) ++ ((if decide (k ≠ 1) then pkB z.2.1 else []) ++ ((if decide (k = 3) then textB z.2.2.1 else []) ++ ((if nextB k then Leb.put z.2.2.2.1 else []) ++ ((if decide (k ≠ 1) then Leb.put z.2.2.2.2.1 else []) ++ ((if decide (k ≠ 1) then proofB z.2.2.2.2.2.1 else []) ++ (if decide (k = 5) then proofB z.2.2.2.2.2.2 else []))))))
def restV (k : Int) (z : MRest) : Prop :=
  (if decide (k = 1) then hdrV z.1 else z.1 = (0, 0, noRt)) ∧ ((if decide (k ≠ 1) then pkV z.2.1 else z.2.1 = noPkt) ∧ ((if decide (k = 3) then (z.2.2.1.length : Int) ≤ 32 else z.2.2.1 = []) ∧ ((if nextB k then 0 ≤ z.2.2.2.1 ∧ z.2.2.2.1 ≤ 1099511627777 else z.2.2.2.1 = 0) ∧ ((if decide (k ≠ 1) then 1 ≤ z.2.2.2.2.1 ∧ z.2.2.2.2.1 ≤ 1099511627776 else z.2.2.2.2.1 = 0) ∧ ((if decide (k ≠ 1) then proofV z.2.2.2.2.2.1 else z.2.2.2.2.2.1 = (0, [])) ∧ (if decide (k = 5) then proofV z.2.2.2.2.2.2 else z.2.2.2.2.2.2 = (0, [])))))))
theorem codecRest (k : Int) : Codec (rRest k) (restB k) (restV k) :=
  (codecHdr.ite (decide (k = 1)) (0, 0, noRt)).bind fun _ => (codecPk.ite (decide (k ≠ 1)) noPkt).bind fun _ => ((Codec.text 32 (by decide)).ite (decide (k = 3)) []).bind fun _ => ((Codec.num 0 1099511627777 (by decide) (by decide)).ite (nextB k) 0).bind fun _ =>
    ((Codec.num 1 1099511627776 (by decide) (by decide)).ite (decide (k ≠ 1)) 0).bind fun _ => (codecProof.ite (decide (k ≠ 1)) (0, [])).bind fun _ => codecProof.ite (decide (k = 5)) (0, [])
def restOf (m : PMsg) : MRest := ((m.hh, m.ht, m.hr), m.pk, m.ack, m.next, m.height, (m.pc, m.pl), (m.cc, m.cl))
def msgB (m : PMsg) : List UInt8 := Leb.put m.kind ++ restB m.kind (restOf m)
def msgV (m : PMsg) : Prop := (1 ≤ m.kind ∧ m.kind ≤ 5) ∧ restV m.kind (restOf m)
theorem codecMsg : Codec rMsg msgB msgV :=
  ((Codec.num 1 5 (by decide) (by decide)).bind fun k => codecRest k).map (fun z => msgK z.1 z.2) (fun m => (m.kind, restOf m)) (fun _ => rfl) (fun _ => rfl)
def zeroMsg : PMsg := ⟨0, 0, 0, noRt, noPkt, [], 0, 0, 0, [], 0, []⟩
def decMsg : List UInt8 → PMsg × Int := decOf rMsg zeroMsg mayM
theorem rMsg_bad {l : List UInt8} (h : (Leb.next l 0).2.2 ≠ 0) : (rMsg l (0, 0)).2 = (0, (Leb.next l 0).2.2) := by
  have e : rNum 1 5 l (0, 0) = (0, 0, (Leb.next l 0).2.2) := by
    unfold rNum numS
    rw [if_neg (by simp), if_pos h]
  show (rRest (rNum 1 5 l (0, 0)).1 l (rNum 1 5 l (0, 0)).2).2 = _
  rw [e]
  exact (codecRest 0).stick l _ h
theorem decMsg_bad {l : List UInt8} (h : (Leb.next l 0).2.2 ≠ 0) : decMsg l = (zeroMsg, (Leb.next l 0).2.2) := by
  have e := rMsg_bad h
  have : endS l (rMsg l (0, 0)).2.1 (rMsg l (0, 0)).2.2 = (Leb.next l 0).2.2 := by
    rw [e]
    unfold endS
    rw [if_neg (by simp [h])]
  unfold decMsg decOf
  rw [this, if_pos h]

/-! ### Messages that may be are read back -/
theorem mayL_V {c : Int} {L : List PLeaf} (h : mayL c L = true) (ho : ∀ x ∈ L, x.ok) : proofV (c, L) := by
  simp only [mayL, Bool.and_eq_true, decide_eq_true_iff] at h
  obtain ⟨h1, h2, h3, h4⟩ := h
  refine ⟨⟨h1, h2⟩, ⟨by show (0 : Int) ≤ (L.length : Int); omega, by show (L.length : Int) ≤ 2; omega⟩, fun x hx => ?_⟩
  have hx : x ∈ L := hx
  obtain ⟨i, hi, rfl⟩ := List.getElem_of_mem hx
  have hm := mayAt_iff.1 (List.all_eq_true.1 h4 i (List.mem_range.2 hi))
  have e : L.getD i .none = L[i] := by simp [List.getD, hi]
  unfold lK lV lI lN lP at hm
  rw [e] at hm
  obtain ⟨⟨⟨a1, a2⟩, a3, a4⟩, a5, a6, a7⟩ := hm
  have := deep_30 c L[i].i
  exact ⟨by omega, by omega, ⟨a5, by omega⟩, ⟨by omega, by omega⟩, (ho _ hx).hs⟩
theorem mayM_V {m : PMsg} (h : mayM m = true) (ho : MsgOk m) : msgV m := by
  obtain ⟨k, hh, ht, hr, pk, ack, nx, hg, pc, pl, cc, cl⟩ := m
  unfold mayM at h
  simp only [Bool.and_eq_true] at h
  obtain ⟨hk, hs, h⟩ := h
  have hk : 1 ≤ k ∧ k ≤ 5 := by simpa [between] using hk
  have hs := of_decide_eq_true hs
  obtain ⟨⟨-, -, f3, f4⟩, po, co, -, -⟩ := ho
  dsimp only at h f3 f4 po co
  refine ⟨hk, ?_⟩
  have hk : k = 1 ∨ k = 2 ∨ k = 3 ∨ k = 4 ∨ k = 5 := by omega
  rcases hk with rfl | rfl | rfl | rfl | rfl
  · simp only [plainM, if_true, PMsg.mk.injEq, true_and] at hs
    obtain ⟨rfl, rfl, rfl, rfl, rfl, rfl, rfl, rfl⟩ := hs
    simp only [if_true, Bool.and_eq_true, between, decide_eq_true_iff] at h
    simp [restV, restOf, nextB]
    exact ⟨h.1, h.2, f3, f4⟩
  all_goals
    rw [if_neg (by decide)] at h
    simp only [Bool.and_eq_true] at h
    obtain ⟨h0, h1, h2, h3, h4, h5⟩ := h
    have h1 : 0 ≤ nx ∧ nx ≤ 1099511627777 := by simpa [between] using h1
    have h2 : 1 ≤ hg ∧ hg ≤ 1099511627776 := by simpa [between] using h2
    have h3 := mayPk_V h3
    have h4 := mayL_V h4 po
    have h5 := mayL_V h5 co
    simp [plainM] at hs
  · obtain ⟨rfl, rfl, rfl, rfl, rfl, rfl, rfl⟩ := hs
    simp [restV, restOf, nextB]
    exact ⟨h3, h2, h4⟩
  · obtain ⟨rfl, rfl, rfl, rfl, rfl, rfl⟩ := hs
    have h0 : 1 ≤ (ack.length : Int) ∧ (ack.length : Int) ≤ 32 := by simpa [between] using h0
    simp [restV, restOf, nextB]
    exact ⟨h3, by omega, h2, h4⟩
  · obtain ⟨rfl, rfl, rfl, rfl, rfl, rfl⟩ := hs
    simp [restV, restOf, nextB]
    exact ⟨h3, h1, h2, h4⟩
  · obtain ⟨rfl, rfl, rfl, rfl⟩ := hs
    simp [restV, restOf, nextB]
    exact ⟨h3, h1, h2, h4, h5⟩
theorem leafV_ok {x : PLeaf} (h : leafV x) : x.ok := ⟨by have := h.1; omega, by have := h.2.1; omega, by have := h.2.2.2.1.2; omega, h.2.2.2.2⟩
theorem proofV_ok {p : Int × List PLeaf} (h : proofV p) : (∀ x ∈ p.2, x.ok) ∧ p.2.length ≤ 2 := ⟨fun x hx => leafV_ok (h.2.2 x hx), by have := h.2.1.2; omega⟩
theorem pkV_fits {p : Pkt} (h : pkV p) : p.fits := by
  obtain ⟨⟨h1, -⟩, ⟨h2, -⟩, -, h3, -⟩ := h
  exact ⟨by omega, by omega, by omega⟩
theorem noPkt_fits : noPkt.fits := ⟨by decide, by decide, by decide⟩
theorem msgV_ok {m : PMsg} (h : msgV m) : MsgOk m := by
  obtain ⟨-, h1, h2, h3, h4, h5, h6, h7⟩ := h
  have a1 : hashV m.hr := by
    split at h1
    · exact h1.2.2
    · have : m.hr = noRt := congrArg (fun z : Int × Int × List Int => z.2.2) h1
      rw [this]; exact noRt_ok
  have a2 : m.pk.fits := by
    split at h2
    · exact pkV_fits h2
    · have : m.pk = noPkt := h2
      rw [this]; exact noPkt_fits
  have a3 : m.ack.length ≤ 1000000000 := by
    split at h3
    · have : (m.ack.length : Int) ≤ 32 := h3
      omega
    · have : m.ack = [] := h3
      rw [this]; decide
  have nl : ∀ x ∈ ([] : List PLeaf), x.ok := fun x hx => absurd hx (by simp)
  have a4 : (∀ x ∈ m.pl, x.ok) ∧ m.pl.length ≤ 2 := by
    split at h6
    · exact proofV_ok h6
    · have : m.pl = [] := congrArg (fun z : Int × List PLeaf => z.2) h6
      rw [this]; exact ⟨nl, by decide⟩
  have a5 : (∀ x ∈ m.cl, x.ok) ∧ m.cl.length ≤ 2 := by
    split at h7
    · exact proofV_ok h7
    · have : m.cl = [] := congrArg (fun z : Int × List PLeaf => z.2) h7
      rw [this]; exact ⟨nl, by decide⟩
  exact ⟨⟨a2, a3, a1.1, a1.2⟩, a4.1, a5.1, by omega, by omega⟩
theorem zeroMsg_ok : MsgOk zeroMsg := ⟨⟨noPkt_fits, by decide, noRt_ok.1, noRt_ok.2⟩, fun x hx => absurd hx (by simp [zeroMsg]), fun x hx => absurd hx (by simp [zeroMsg]), by decide, by decide⟩
theorem decMsg_back {m : PMsg} (h : mayM m = true) (ho : MsgOk m) : decMsg (msgB m) = (m, 0) := decOf_back codecMsg (mayM_V h ho) h
theorem decMsg_one {l : List UInt8} (h : (decMsg l).2 = 0) : mayM (decMsg l).1 = true ∧ msgB (decMsg l).1 = l := decOf_one codecMsg h
theorem decMsg_zero {l : List UInt8} (h : (decMsg l).2 ≠ 0) : (decMsg l).1 = zeroMsg := decOf_zero h
theorem rMsg_V {l : List UInt8} (h : endS l (rMsg l (0, 0)).2.1 (rMsg l (0, 0)).2.2 = 0) : msgV (rMsg l (0, 0)).1 := by
  have h2 : (rMsg l (0, 0)).2.2 = 0 := by
    unfold endS at h
    split at h
    · exact absurd h (by decide)
    · exact h
  exact (codecMsg.one l 0 (rMsg l (0, 0)).1 (rMsg l (0, 0)).2.1 (by omega) (Prod.ext rfl (Prod.ext rfl h2))).1
theorem decMsg_ok (l : List UInt8) : MsgOk (decMsg l).1 := by
  by_cases h : (decMsg l).2 = 0
  · unfold decMsg decOf at h ⊢
    by_cases h1 : endS l (rMsg l (0, 0)).2.1 (rMsg l (0, 0)).2.2 = 0
    · rw [if_neg (by simp [h1])] at h ⊢
      by_cases h2 : mayM (rMsg l (0, 0)).1 = true
      · rw [if_pos h2]; exact msgV_ok (rMsg_V h1)
      · rw [if_neg h2]; exact zeroMsg_ok
    · rw [if_pos h1]; exact zeroMsg_ok
  · rw [decMsg_zero h]; exact zeroMsg_ok
/-- What a message is written as. -/
def encMsg (m : PMsg) : List UInt8 × Int := if mayM m then (msgB m, 0) else ([], 1)
theorem rMsg_upd {l : List UInt8} {s s1 s2 s3 : Int × Int} {x y : Int} (h1 : rNum 1 5 l s = (1, s1)) (h2 : rNum 1 1099511627776 l s1 = (x, s2)) (h3 : rNum 0 1099511627776 l s2 = (y, s3)) :
    rMsg l s = (⟨1, x, y, numsOf (hashS l s3.1 s3.2).1, noPkt, [], 0, 0, 0, [], 0, []⟩, (hashS l s3.1 s3.2).2) := by
  show (msgK (rNum 1 5 l s).1 (rRest (rNum 1 5 l s).1 l (rNum 1 5 l s).2).1, (rRest (rNum 1 5 l s).1 l (rNum 1 5 l s).2).2) = _
  rw [h1]
  show (msgK 1 ((rHdr l s1).1, noPkt, [], 0, 0, (0, []), (0, [])), (rHdr l s1).2) = _
  unfold rHdr
  dsimp only
  rw [h2]
  dsimp only
  rw [h3]
  rfl
theorem rMsg_oth {l : List UInt8} {s : Int × Int} {k : Int} {s1 : Int × Int} (hk : rNum 1 5 l s = (k, s1)) (h : k ≠ 1) {p : Pkt} {s2 : Int × Int} (hp : rPk l s1 = (p, s2)) {a : List UInt8} {s3 : Int × Int} (ha : rIf (decide (k = 3)) [] (rText 32) l s2 = (a, s3)) {n : Int} {s4 : Int × Int} (hn : rIf (nextB k) 0 (rNum 0 1099511627777) l s3 = (n, s4)) {g : Int} {s5 : Int × Int} (hg : rNum 1 1099511627776 l s4 = (g, s5)) {q : Int × List PLeaf} {s6 : Int × Int} (hq : rProof l s5 = (q, s6)) {c : Int × List PLeaf} {s7 : Int × Int} (hc : rIf (decide (k = 5)) (0, []) rProof l s6 = (c, s7)) :
    rMsg l s = (⟨k, 0, 0, noRt, p, a, n, g, q.1, q.2, c.1, c.2⟩, s7) := by
  show (msgK (rNum 1 5 l s).1 (rRest (rNum 1 5 l s).1 l (rNum 1 5 l s).2).1, (rRest (rNum 1 5 l s).1 l (rNum 1 5 l s).2).2) = _
  rw [hk]
  unfold rRest
  dsimp only
  rw [show decide (k = 1) = false from decide_eq_false h, show decide (k ≠ 1) = true from decide_eq_true h]
  simp only [rIf, if_true, Bool.false_eq_true, if_false] at *
  rw [hp]
  dsimp only
  rw [ha]
  dsimp only
  rw [hn]
  dsimp only
  rw [hg]
  dsimp only
  rw [hq]
  dsimp only
  rw [hc]
  rfl
end Go.Proofs.Ytcgoaicifjndpaa.Vx
end
