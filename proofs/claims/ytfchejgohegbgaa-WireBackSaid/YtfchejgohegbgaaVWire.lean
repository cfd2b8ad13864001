/- Sums written and read, by the walker. -/
import Derived.Test.YtfchejgohegbgaaVRefRd
import Derived.Test.YtfchejgohegbgaaVxRen
import Derived.Test.YtfchejgohegbgaaVxRds
namespace Go.Proofs.Ytfchejgohegbgaa.Vx
def tbW : Tbl where
  T :=
    (3, ⟨1, false, [.int .i64 (0)], .int .i64, 8⟩) ::
    (4, ⟨1, false, [.ff], .bool, 1⟩) ::
    (9, ⟨1, false, [.str []], .str, 16⟩) ::
    (5, ⟨1, false, [.int .u8 (0)], .int .u8, 1⟩) ::
    (84, ⟨1, false, [.int .u64 (0)], .int .u64, 8⟩) ::
    (85, ⟨1, false, [.val (.slice none 0 0)], .slice 5, 24⟩) ::
    (39, ⟨1, false, [.int .i64 (0)], .int .i64, 8⟩) ::
    (59, ⟨32, true, [.int .u8 (0), .int .u8 (0), .int .u8 (0), .int .u8 (0), .int .u8 (0), .int .u8 (0), .int .u8 (0), .int .u8 (0), .int .u8 (0), .int .u8 (0), .int .u8 (0), .int .u8 (0), .int .u8 (0), .int .u8 (0), .int .u8 (0), .int .u8 (0), .int .u8 (0), .int .u8 (0), .int .u8 (0), .int .u8 (0), .int .u8 (0), .int .u8 (0), .int .u8 (0), .int .u8 (0), .int .u8 (0), .int .u8 (0), .int .u8 (0), .int .u8 (0), .int .u8 (0), .int .u8 (0), .int .u8 (0), .int .u8 (0)], .array 32 5, 32⟩) ::
    (92, ⟨3, true, [.str [], .int .i64 (0), .int .i64 (0)], .struct [(0, (1, false)), (1, (1, false)), (2, (1, false))], 32⟩) ::
    (89, ⟨2, true, [.val (.slice none 0 0), .ff], .struct [(0, (1, false)), (1, (1, false))], 32⟩) ::
    (72, ⟨3, true, [.str [], .int .i64 (0), .int .i64 (0)], .struct [(0, (1, false)), (1, (1, false)), (2, (1, false))], 32⟩) ::
    (53, ⟨1, false, [.val (.pointer none)], .ptr 89, 8⟩) ::
    (68, ⟨1, false, [.val (.pointer none)], .ptr 92, 8⟩) ::
    (51, ⟨1, false, [.val (.slice none 0 0)], .slice 61, 24⟩) ::
    (61, ⟨35, true, [.int .i64 (0), .int .i64 (0), .str [], .int .u8 (0), .int .u8 (0), .int .u8 (0), .int .u8 (0), .int .u8 (0), .int .u8 (0), .int .u8 (0), .int .u8 (0), .int .u8 (0), .int .u8 (0), .int .u8 (0), .int .u8 (0), .int .u8 (0), .int .u8 (0), .int .u8 (0), .int .u8 (0), .int .u8 (0), .int .u8 (0), .int .u8 (0), .int .u8 (0), .int .u8 (0), .int .u8 (0), .int .u8 (0), .int .u8 (0), .int .u8 (0), .int .u8 (0), .int .u8 (0), .int .u8 (0), .int .u8 (0), .int .u8 (0), .int .u8 (0), .int .u8 (0)], .struct [(0, (1, false)), (1, (1, false)), (2, (1, false)), (3, (32, true))], 64⟩) ::
    (67, ⟨1, false, [.val (.slice none 0 0)], .slice 74, 24⟩) ::
    (74, ⟨3, true, [.int .i64 (0), .int .i64 (0), .int .i64 (0)], .struct [(0, (1, false)), (1, (1, false)), (2, (1, false))], 24⟩) ::
    []
  F :=
    (59, [0, 0, 0, 0, 0, 0, 0, 0, 0, 0, 0, 0, 0, 0, 0, 0, 0, 0, 0, 0, 0, 0, 0, 0, 0, 0, 0, 0, 0, 0, 0, 0]) ::
    []
  sym := true

theorem tbW_ok : tbW.Ok Try.prog where
  T :=
    TblOk.cons (by kernel_rfl) <|
    TblOk.cons (by kernel_rfl) <|
    TblOk.cons (by kernel_rfl) <|
    TblOk.cons (by kernel_rfl) <|
    TblOk.cons (by kernel_rfl) <|
    TblOk.cons (by kernel_rfl) <|
    TblOk.cons (by kernel_rfl) <|
    TblOk.cons (by kernel_rfl) <|
    TblOk.cons (by kernel_rfl) <|
    TblOk.cons (by kernel_rfl) <|
    TblOk.cons (by kernel_rfl) <|
    TblOk.cons (by kernel_rfl) <|
    TblOk.cons (by kernel_rfl) <|
    TblOk.cons (by kernel_rfl) <|
    TblOk.cons (by kernel_rfl) <|
    TblOk.cons (by kernel_rfl) <|
    TblOk.cons (by kernel_rfl) <|
    TblOk.nil _
  F :=
    FlatsOk.cons (FlatOk.of (D := .array 32 5) 6 (by decide) (by kernel_rfl) (by kernel_rfl) rfl (by kernel_rfl)) <|
    FlatsOk.nil _

end Go.Proofs.Ytfchejgohegbgaa.Vx
namespace Go.Proofs.Ytfchejgohegbgaa
open Go.RowKit
set_option linter.unusedVariables false
set_option linter.unusedSimpArgs false

/-- A byte of a text, as a number. -/
def byteI (l : List UInt8) (i : Nat) : Int := ((l.getD i 0).toNat : Int)
theorem byteI_range (l : List UInt8) (i : Nat) : 0 ≤ byteI l i ∧ byteI l i < 256 := by
  unfold byteI
  have := (l.getD i 0).toNat_lt
  omega
theorem cut_byte {l : List UInt8} {a : Int} (h0 : 0 ≤ a) (h : a + 32 ≤ l.length) (i : Nat) (hi : i < 32) : ((((l.take l.length).drop a.toNat).getD i 0).toNat : Int) = byteI (cut l a 32) i := by
  unfold byteI cut
  congr 2
  simp only [List.take_length, List.getD_eq_getElem?_getD, List.getElem?_drop, List.getElem?_take]
  rw [if_pos (by omega)]
theorem cut_at {l : List UInt8} {a : Int} (h0 : 0 ≤ a) (h : a + 32 ≤ l.length) (i : Nat) (hi : i < 32) : byteI (cut l a 32) i = byteI l (a.toNat + i) := by
  unfold byteI cut
  congr 2
  simp only [List.getD_eq_getElem?_getD, List.getElem?_drop, List.getElem?_take]
  rw [if_pos (by omega)]
theorem zero_byte (i : Nat) : byteI (List.replicate 32 0) i = 0 := by
  unfold byteI
  by_cases h : i < 32
  · rw [List.getD_eq_getElem?_getD, List.getElem?_replicate, if_pos h]; rfl
  · rw [List.getD_eq_getElem?_getD, List.getElem?_replicate, if_neg h]; rfl
theorem ok_hash {l : List UInt8} {a b : Int} (h : okRd l a b) : okRd l (hashS l a b).2.1 (hashS l a b).2.2 := by
  obtain ⟨h1, h2, h3, h4, h5⟩ := h
  unfold hashS okRd
  split
  · exact ⟨h1, h2, h3, h4, h5⟩
  · split
    · dsimp only; omega
    · dsimp only; omega
namespace Vx
/-- A sum's bytes. -/
def hashOf (l : List Int) : List UInt8 := l.map fun n => UInt8.ofNat n.toNat
def sHashW : SpecW
  | l, b, [.agg [.int .u8 n0, .int .u8 n1, .int .u8 n2, .int .u8 n3, .int .u8 n4, .int .u8 n5, .int .u8 n6, .int .u8 n7, .int .u8 n8, .int .u8 n9, .int .u8 n10, .int .u8 n11, .int .u8 n12, .int .u8 n13, .int .u8 n14, .int .u8 n15, .int .u8 n16, .int .u8 n17, .int .u8 n18, .int .u8 n19, .int .u8 n20, .int .u8 n21, .int .u8 n22, .int .u8 n23, .int .u8 n24, .int .u8 n25, .int .u8 n26, .int .u8 n27, .int .u8 n28, .int .u8 n29, .int .u8 n30, .int .u8 n31]] => some (l.length ≤ 140737488355000, .tup [], putW l (hashOf [n0, n1, n2, n3, n4, n5, n6, n7, n8, n9, n10, n11, n12, n13, n14, n15, n16, n17, n18, n19, n20, n21, n22, n23, n24, n25, n26, n27, n28, n29, n30, n31]) b, b)
  | _, _, _ => none

def sHash : Spec1
  | [.str l, .int .i64 a, .int .i64 b], [] => some (okRd l a b, .agg [.int .u8 (byteI (hashS l a b).1 0), .int .u8 (byteI (hashS l a b).1 1), .int .u8 (byteI (hashS l a b).1 2), .int .u8 (byteI (hashS l a b).1 3), .int .u8 (byteI (hashS l a b).1 4), .int .u8 (byteI (hashS l a b).1 5), .int .u8 (byteI (hashS l a b).1 6), .int .u8 (byteI (hashS l a b).1 7), .int .u8 (byteI (hashS l a b).1 8), .int .u8 (byteI (hashS l a b).1 9), .int .u8 (byteI (hashS l a b).1 10), .int .u8 (byteI (hashS l a b).1 11), .int .u8 (byteI (hashS l a b).1 12), .int .u8 (byteI (hashS l a b).1 13), .int .u8 (byteI (hashS l a b).1 14), .int .u8 (byteI (hashS l a b).1 15), .int .u8 (byteI (hashS l a b).1 16), .int .u8 (byteI (hashS l a b).1 17), .int .u8 (byteI (hashS l a b).1 18), .int .u8 (byteI (hashS l a b).1 19), .int .u8 (byteI (hashS l a b).1 20), .int .u8 (byteI (hashS l a b).1 21), .int .u8 (byteI (hashS l a b).1 22), .int .u8 (byteI (hashS l a b).1 23), .int .u8 (byteI (hashS l a b).1 24), .int .u8 (byteI (hashS l a b).1 25), .int .u8 (byteI (hashS l a b).1 26), .int .u8 (byteI (hashS l a b).1 27), .int .u8 (byteI (hashS l a b).1 28), .int .u8 (byteI (hashS l a b).1 29), .int .u8 (byteI (hashS l a b).1 30), .int .u8 (byteI (hashS l a b).1 31)], [.str l, .int .i64 (hashS l a b).2.1, .int .i64 (hashS l a b).2.2])
  | _, _ => none

def sHText : List SV → Option (Prop × SV)
  | [.agg [.int .u8 n0, .int .u8 n1, .int .u8 n2, .int .u8 n3, .int .u8 n4, .int .u8 n5, .int .u8 n6, .int .u8 n7, .int .u8 n8, .int .u8 n9, .int .u8 n10, .int .u8 n11, .int .u8 n12, .int .u8 n13, .int .u8 n14, .int .u8 n15, .int .u8 n16, .int .u8 n17, .int .u8 n18, .int .u8 n19, .int .u8 n20, .int .u8 n21, .int .u8 n22, .int .u8 n23, .int .u8 n24, .int .u8 n25, .int .u8 n26, .int .u8 n27, .int .u8 n28, .int .u8 n29, .int .u8 n30, .int .u8 n31]] => some (True, .c (.str (hashOf [n0, n1, n2, n3, n4, n5, n6, n7, n8, n9, n10, n11, n12, n13, n14, n15, n16, n17, n18, n19, n20, n21, n22, n23, n24, n25, n26, n27, n28, n29, n30, n31])))
  | _ => none

set_option maxRecDepth 100000 in
set_option maxHeartbeats 400000 in
theorem hashWP : MethW Try.prog 46 89 5 sHashW := by
  refine MethW.of (E := tbW) (C := [(69, appW 89 5 sPut)]) [] 0 [] tbW_ok (CtsOk.cons (MethW.ct putP) <| CtsOk.nil _) (by kernel_rfl) Try.func46 rfl rfl rfl (by kernel_rfl) (by kernel_rfl) ?_ ?_
  · intro l b args pre r l' b' h
    unfold sHashW at h
    split at h
    · cases h; first | rfl | exact ⟨rfl, rfl⟩
    · cases h
  · intro l b args pre r l' b' h hp
    unfold sHashW at h
    split at h
    rotate_left
    · cases h
    rename_i n0 n1 n2 n3 n4 n5 n6 n7 n8 n9 n10 n11 n12 n13 n14 n15 n16 n17 n18 n19 n20 n21 n22 n23 n24 n25 n26 n27 n28 n29 n30 n31
    cases h
    unfold sPut
    generalize hg0 : putW = g0
    generalize hg1 : fitPut = g1
    generalize hg2 : hashOf = g2
    generalize hA : Arith.std = A
    cbv
    subst hA hg0 hg1 hg2
    refine Need.mk (show _ ≤ _ by simp; omega) fun _ => ?_
    exact ⟨rfl, trivial⟩

set_option maxRecDepth 100000 in
set_option maxHeartbeats 400000 in
theorem rdHashP : Meth Try.prog 53 92 sHash := by
  refine Meth.of (E := tbW) (C := [(72, appMeth 92 sFail)]) [2] 0 [(2, [(0, true), (1, true), (2, true), (3, true), (4, true), (5, true), (6, true), (7, true), (8, true), (9, true), (10, true)]), (6, [(0, true), (1, true), (2, true), (3, true), (4, true), (5, true), (6, true), (7, true), (8, true), (9, true), (10, true), (11, true), (12, true), (13, true), (14, false), (15, true), (1016, false), (16, true), (17, true), (18, false)])] tbW_ok (CtsOk.cons (Meth.ct failP) <| CtsOk.nil _) (by kernel_rfl) Try.func53 rfl rfl rfl (by kernel_rfl) (by kernel_rfl) ?_ ?_
  · intro cs args pre r cs' h
    unfold sHash at h
    split at h
    · cases h; first | rfl | exact ⟨rfl, rfl⟩
    · cases h
  · intro cs args pre r cs' h hp
    unfold sHash at h
    split at h
    rotate_left
    · cases h
    rename_i l a b
    cases h
    unfold sFail
    generalize hg0 : failS = g0
    generalize hg1 : hashS = g1
    generalize hg2 : byteI = g2
    generalize hg3 : okRd = g3
    generalize hg4 : (List.length : List UInt8 → Nat) = g4
    generalize hA : Arith.std = A
    cbv
    subst hA hg0 hg1 hg2 hg3 hg4
    obtain ⟨h1, h2, h3, h4, h5⟩ := hp
    refine Need.mk (show -9223372036854775808 ≤ (l.length : Int) - a ∧ (l.length : Int) - a ≤ 9223372036854775807 by omega) fun _ => ?_
    refine Ife.mk (fun h => ?_) (fun h => ?_)
    · have h : (l.length : Int) - a < 32 := of_decide_eq_true (p := (l.length : Int) - a < 32) h
      refine Need.mk trivial fun _ => ?_
      have hf : failS b 2 ≠ 0 := by
        unfold failS
        split
        · decide
        · assumption
      refine Ife.mk (fun _ => ?_) (fun h => absurd h (by simp [Arith.std, hf]))
      have hS : hashS l a b = (List.replicate 32 0, a, failS b 2) := by
        unfold hashS failS
        by_cases hb : b = 0
        · rw [if_neg (by simp [hb]), if_pos h, if_pos hb]
        · rw [if_pos hb, if_neg hb]
      rw [hS]
      exact ⟨⟨(zero_byte 0).symm, (zero_byte 1).symm, (zero_byte 2).symm, (zero_byte 3).symm, (zero_byte 4).symm, (zero_byte 5).symm, (zero_byte 6).symm, (zero_byte 7).symm, (zero_byte 8).symm, (zero_byte 9).symm, (zero_byte 10).symm, (zero_byte 11).symm, (zero_byte 12).symm, (zero_byte 13).symm, (zero_byte 14).symm, (zero_byte 15).symm, (zero_byte 16).symm, (zero_byte 17).symm, (zero_byte 18).symm, (zero_byte 19).symm, (zero_byte 20).symm, (zero_byte 21).symm, (zero_byte 22).symm, (zero_byte 23).symm, (zero_byte 24).symm, (zero_byte 25).symm, (zero_byte 26).symm, (zero_byte 27).symm, (zero_byte 28).symm, (zero_byte 29).symm, (zero_byte 30).symm, (zero_byte 31).symm, trivial⟩, ⟨rfl, rfl, trivial⟩, trivial⟩
    · have h : ¬ (l.length : Int) - a < 32 := of_decide_eq_false (p := (l.length : Int) - a < 32) h
      refine Ife.mk (fun hb => ?_) (fun hb => ?_)
      · have hb : b ≠ 0 := by simpa [Arith.std] using hb
        have hS : hashS l a b = (List.replicate 32 0, a, b) := by
          unfold hashS
          rw [if_pos hb]
        rw [hS]
        exact ⟨⟨(zero_byte 0).symm, (zero_byte 1).symm, (zero_byte 2).symm, (zero_byte 3).symm, (zero_byte 4).symm, (zero_byte 5).symm, (zero_byte 6).symm, (zero_byte 7).symm, (zero_byte 8).symm, (zero_byte 9).symm, (zero_byte 10).symm, (zero_byte 11).symm, (zero_byte 12).symm, (zero_byte 13).symm, (zero_byte 14).symm, (zero_byte 15).symm, (zero_byte 16).symm, (zero_byte 17).symm, (zero_byte 18).symm, (zero_byte 19).symm, (zero_byte 20).symm, (zero_byte 21).symm, (zero_byte 22).symm, (zero_byte 23).symm, (zero_byte 24).symm, (zero_byte 25).symm, (zero_byte 26).symm, (zero_byte 27).symm, (zero_byte 28).symm, (zero_byte 29).symm, (zero_byte 30).symm, (zero_byte 31).symm, trivial⟩, ⟨rfl, rfl, trivial⟩, trivial⟩
      · have hb : b = 0 := by simpa [Arith.std] using hb
        subst hb
        have hS : hashS l a 0 = (cut l a 32, a + 32, 0) := by
          unfold hashS
          rw [if_neg (by simp), if_neg h]
        have hc := fun i hi => cut_byte (l := l) h1 (by omega) i hi
        refine Need.mk (show 0 ≤ a ∧ a ≤ (l.length : Int) ∧ (l.length : Int) ≤ (l.length : Int) from ⟨h1, h2, by omega⟩) fun _ => ?_
        refine Need.mk (show 32 ≤ ((l.take (l.length : Int).toNat).drop a.toNat).length by simp; omega) fun _ => ?_
        refine Need.mk (show -9223372036854775808 ≤ a + 32 ∧ a + 32 ≤ 9223372036854775807 by omega) fun _ => ?_
        rw [hS]
        exact ⟨⟨hc 0 (by decide), hc 1 (by decide), hc 2 (by decide), hc 3 (by decide), hc 4 (by decide), hc 5 (by decide), hc 6 (by decide), hc 7 (by decide), hc 8 (by decide), hc 9 (by decide), hc 10 (by decide), hc 11 (by decide), hc 12 (by decide), hc 13 (by decide), hc 14 (by decide), hc 15 (by decide), hc 16 (by decide), hc 17 (by decide), hc 18 (by decide), hc 19 (by decide), hc 20 (by decide), hc 21 (by decide), hc 22 (by decide), hc 23 (by decide), hc 24 (by decide), hc 25 (by decide), hc 26 (by decide), hc 27 (by decide), hc 28 (by decide), hc 29 (by decide), hc 30 (by decide), hc 31 (by decide), trivial⟩, ⟨rfl, rfl, trivial⟩, trivial⟩

set_option maxRecDepth 100000 in
set_option maxHeartbeats 400000 in
theorem rdAtP : Meth Try.prog 57 92 sRdAt := by
  refine Meth.of (E := tbW) (C := []) [] 0 [] tbW_ok (CtsOk.nil _) (by kernel_rfl) Try.func57 rfl rfl rfl (by kernel_rfl) (by kernel_rfl) ?_ ?_
  · intro cs args pre r cs' h
    unfold sRdAt at h
    split at h
    · cases h; first | rfl | exact ⟨rfl, rfl⟩
    · cases h
  · intro cs args pre r cs' h hp
    unfold sRdAt at h
    split at h
    rotate_left
    · cases h
    rename_i l a b
    cases h
    generalize hA : Arith.std = A
    cbv

structure LH (l : List UInt8) (a : Int) where
  i : Int
  g : Nat → Int
  h0 : 0 ≤ i
  h1 : i ≤ 32
  h2 : ∀ j : Nat, (j : Int) < i → g j = byteI l (a.toNat + j)
structure LT (ns : List Int) where
  i : Int
  g : Nat → Int
  h0 : 0 ≤ i
  h1 : i ≤ 32
  h2 : ∀ j : Nat, (j : Int) < i → g j = ns.getD j 0
set_option maxRecDepth 100000 in
set_option maxHeartbeats 400000 in
theorem refHashP : Meth Try.prog 54 72 sHash := by
  refine Meth.of (E := tbW) (C := []) [2] 0 [(2, [(0, true), (1, true), (2, true), (3, true), (4, true), (5, true), (6, true), (7, true), (8, true), (9, true), (10, true), (11, true), (12, true), (13, true), (14, true), (15, true), (16, true), (17, true)]), (9, [(0, true), (1, true), (2, true), (3, true), (4, true), (5, true), (6, true), (7, true), (8, true), (9, true), (10, true), (11, true), (12, true), (13, false)])] tbW_ok (CtsOk.nil _) (by kernel_rfl) Try.func54 rfl rfl rfl (by kernel_rfl) (by kernel_rfl) ?_ ?_
  · intro cs args pre r cs' h
    unfold sHash at h
    split at h
    · cases h; first | rfl | exact ⟨rfl, rfl⟩
    · cases h
  · intro cs args pre r cs' h hp
    unfold sHash at h
    split at h
    rotate_left
    · cases h
    rename_i l a b
    cases h
    generalize hg0 : hashS = g0
    generalize hg1 : byteI = g1
    generalize hg2 : okRd = g2
    generalize hg3 : (List.length : List UInt8 → Nat) = g3
    generalize hL : lft Try.prog _ = L
    generalize hA : Arith.std = A
    cbv
    subst hA hg0 hg1 hg2 hg3 hL
    obtain ⟨h1, h2, h3, h4, h5⟩ := hp
    refine Ife.mk (fun h => ?_) (fun h => ?_)
    · have hb : b = 0 := by simpa [Arith.std] using h
      subst hb
      refine Need.mk (show -9223372036854775808 ≤ (l.length : Int) - a ∧ (l.length : Int) - a ≤ 9223372036854775807 by omega) fun _ => ?_
      refine Ife.mk (fun h => ?_) (fun h => ?_)
      · have h : (l.length : Int) - a < 32 := of_decide_eq_true (p := (l.length : Int) - a < 32) h
        have hS : hashS l a 0 = (List.replicate 32 0, a, 2) := by
          unfold hashS
          rw [if_neg (by simp), if_pos h]
        rw [hS]
        refine Ife.mk (fun _ => ?_) (fun h => absurd h (by simp [Arith.std]))
        exact ⟨⟨(zero_byte 0).symm, (zero_byte 1).symm, (zero_byte 2).symm, (zero_byte 3).symm, (zero_byte 4).symm, (zero_byte 5).symm, (zero_byte 6).symm, (zero_byte 7).symm, (zero_byte 8).symm, (zero_byte 9).symm, (zero_byte 10).symm, (zero_byte 11).symm, (zero_byte 12).symm, (zero_byte 13).symm, (zero_byte 14).symm, (zero_byte 15).symm, (zero_byte 16).symm, (zero_byte 17).symm, (zero_byte 18).symm, (zero_byte 19).symm, (zero_byte 20).symm, (zero_byte 21).symm, (zero_byte 22).symm, (zero_byte 23).symm, (zero_byte 24).symm, (zero_byte 25).symm, (zero_byte 26).symm, (zero_byte 27).symm, (zero_byte 28).symm, (zero_byte 29).symm, (zero_byte 30).symm, (zero_byte 31).symm, trivial⟩, ⟨rfl, rfl, trivial⟩, trivial⟩
      · have h : ¬ (l.length : Int) - a < 32 := of_decide_eq_false (p := (l.length : Int) - a < 32) h
        have hS : hashS l a 0 = (cut l a 32, a + 32, 0) := by
          unfold hashS
          rw [if_neg (by simp), if_neg h]
        have hc := fun i hi => cut_at (l := l) h1 (by omega) i hi
        refine Ife.mk (fun h => absurd h (by simp [Arith.std])) (fun _ => ?_)
        rw [hS]
        obtain ⟨len, hlen⟩ : ∃ n : Int, n = (l.length : Int) := ⟨_, rfl⟩
        have e1 : a + 32 ≤ len := by omega
        have e2 : len ≤ 140737488351232 := by omega
        show Runs Try.prog 1 (.loop _) _ _
        refine loop_ruleR (N := env (lft Try.prog 1) 0 .std tbW [] [(2, [(0, true), (1, true), (2, true), (3, true), (4, true), (5, true), (6, true), (7, true), (8, true), (9, true), (10, true), (11, true), (12, true), (13, true), (14, true), (15, true), (16, true), (17, true)]), (9, [(0, true), (1, true), (2, true), (3, true), (4, true), (5, true), (6, true), (7, true), (8, true), (9, true), (10, true), (11, true), (12, true), (13, false)])]) rfl tbW_ok (CtsOk.nil _) (fun c st K _ h => h) (by kernel_rfl) [2] (X := LH l a)
          (S := fun x => ⟨[.c (.ptr 0 0), .any, .c (.ptr 1 0), .c (.ptr 2 0), .c (.int .i64 x.i)] ++ List.replicate 52 .any, [.cells 72 [.str l, .int .i64 a, .int .i64 0], .cells 59 [.int .u8 0, .int .u8 0, .int .u8 0, .int .u8 0, .int .u8 0, .int .u8 0, .int .u8 0, .int .u8 0, .int .u8 0, .int .u8 0, .int .u8 0, .int .u8 0, .int .u8 0, .int .u8 0, .int .u8 0, .int .u8 0, .int .u8 0, .int .u8 0, .int .u8 0, .int .u8 0, .int .u8 0, .int .u8 0, .int .u8 0, .int .u8 0, .int .u8 0, .int .u8 0, .int .u8 0, .int .u8 0, .int .u8 0, .int .u8 0, .int .u8 0, .int .u8 0], .cells 59 [.int .u8 (x.g 0), .int .u8 (x.g 1), .int .u8 (x.g 2), .int .u8 (x.g 3), .int .u8 (x.g 4), .int .u8 (x.g 5), .int .u8 (x.g 6), .int .u8 (x.g 7), .int .u8 (x.g 8), .int .u8 (x.g 9), .int .u8 (x.g 10), .int .u8 (x.g 11), .int .u8 (x.g 12), .int .u8 (x.g 13), .int .u8 (x.g 14), .int .u8 (x.g 15), .int .u8 (x.g 16), .int .u8 (x.g 17), .int .u8 (x.g 18), .int .u8 (x.g 19), .int .u8 (x.g 20), .int .u8 (x.g 21), .int .u8 (x.g 22), .int .u8 (x.g 23), .int .u8 (x.g 24), .int .u8 (x.g 25), .int .u8 (x.g 26), .int .u8 (x.g 27), .int .u8 (x.g 28), .int .u8 (x.g 29), .int .u8 (x.g 30), .int .u8 (x.g 31)]]⟩) (μ := fun x => 32 - x.i.toNat) ⟨0, fun _ => 0, by omega, by omega, fun j hj => by omega⟩ (by kernel_rfl) [0, 1, 2] ?_ ?_
        · refine ⟨rfl, by decide, ?_, ?_⟩ <;> repeat' (first | exact trivial | exact rfl | apply And.intro)
        rintro ⟨i, g, hi0, hin, hall⟩
        generalize hg0 : byteI = g0
        generalize hg1 : cut = g1
        generalize hg2 : (List.length : List UInt8 → Nat) = g2
        generalize hL : lft Try.prog _ = L
        generalize hA : Arith.std = A
        cbv
        subst hA hg0 hg1 hg2 hL
        replace hall : ∀ j : Nat, (j : Int) < i → g j = byteI l (a.toNat + j) := hall
        have hlen2 : len = (l.length : Int) := hlen
        replace hi0 : 0 ≤ i := hi0
        replace hin : i ≤ 32 := hin
        refine Ife.mk (fun h => ?_) (fun h => ?_)
        · have hlt : i < 32 := of_decide_eq_true (p := i < 32) h
          refine Need.mk (show -9223372036854775808 ≤ a + i ∧ a + i ≤ 9223372036854775807 by omega) fun _ => ?_
          refine Need.mk (show 0 ≤ a + i ∧ a + i < (l.length : Int) by omega) fun _ => ?_
          refine Need.mk (show 0 ≤ i ∧ i < ((32 : Nat) : Int) by omega) fun _ => ?_
          refine Need.mk (show i.toNat < 32 by omega) fun _ => ?_
          refine Need.mk (show -9223372036854775808 ≤ i + 1 ∧ i + 1 ≤ 9223372036854775807 by omega) fun _ => ?_
          refine ⟨⟨i + 1, fun j => Arith.std.upd i.toNat j (Arith.std.at_ l (a + i)) (g j), by omega, by omega, fun j hj => ?_⟩, [0, 1, 2], by show 32 - (i + 1).toNat < 32 - i.toNat; omega, ?_⟩
          · show (if i.toNat = j then (((l.getD (a + i).toNat 0).toNat : Nat) : Int) else g j) = _
            by_cases hji : i.toNat = j
            · rw [if_pos hji]
              unfold byteI
              rw [show (a + i).toNat = a.toNat + j by omega]
            · rw [if_neg hji]
              exact hall j (by omega)
          · refine ⟨rfl, by decide, ?_, ?_⟩ <;> repeat' (first | exact trivial | exact rfl | apply And.intro)
        · have hnlt : ¬ i < 32 := of_decide_eq_false (p := i < 32) h
          have hq : ∀ k : Nat, k < 32 → g k = byteI (cut l a 32) k := fun k hk => (hall k (by omega)).trans (hc k hk).symm
          refine Need.mk (show -9223372036854775808 ≤ a + 32 ∧ a + 32 ≤ 9223372036854775807 by omega) fun _ => ?_
          refine ⟨⟨hq 0 (by decide), hq 1 (by decide), hq 2 (by decide), hq 3 (by decide), hq 4 (by decide), hq 5 (by decide), hq 6 (by decide), hq 7 (by decide), hq 8 (by decide), hq 9 (by decide), hq 10 (by decide), hq 11 (by decide), hq 12 (by decide), hq 13 (by decide), hq 14 (by decide), hq 15 (by decide), hq 16 (by decide), hq 17 (by decide), hq 18 (by decide), hq 19 (by decide), hq 20 (by decide), hq 21 (by decide), hq 22 (by decide), hq 23 (by decide), hq 24 (by decide), hq 25 (by decide), hq 26 (by decide), hq 27 (by decide), hq 28 (by decide), hq 29 (by decide), hq 30 (by decide), hq 31 (by decide), trivial⟩, ?_⟩
          repeat' (first | exact trivial | exact rfl | apply And.intro)
    · have hb : b ≠ 0 := by simpa [Arith.std] using h
      have hS : hashS l a b = (List.replicate 32 0, a, b) := by
        unfold hashS
        rw [if_pos hb]
      rw [hS]
      refine Ife.mk (fun _ => ?_) (fun h => absurd h (by simp [Arith.std, hb]))
      exact ⟨⟨(zero_byte 0).symm, (zero_byte 1).symm, (zero_byte 2).symm, (zero_byte 3).symm, (zero_byte 4).symm, (zero_byte 5).symm, (zero_byte 6).symm, (zero_byte 7).symm, (zero_byte 8).symm, (zero_byte 9).symm, (zero_byte 10).symm, (zero_byte 11).symm, (zero_byte 12).symm, (zero_byte 13).symm, (zero_byte 14).symm, (zero_byte 15).symm, (zero_byte 16).symm, (zero_byte 17).symm, (zero_byte 18).symm, (zero_byte 19).symm, (zero_byte 20).symm, (zero_byte 21).symm, (zero_byte 22).symm, (zero_byte 23).symm, (zero_byte 24).symm, (zero_byte 25).symm, (zero_byte 26).symm, (zero_byte 27).symm, (zero_byte 28).symm, (zero_byte 29).symm, (zero_byte 30).symm, (zero_byte 31).symm, trivial⟩, ⟨rfl, rfl, trivial⟩, trivial⟩

set_option maxRecDepth 100000 in
set_option maxHeartbeats 400000 in
theorem refHTextP : Pure Try.prog 68 sHText := by
  refine Pure.of (E := tbW) (C := []) [] 0 [] tbW_ok (CtsOk.nil _) (by kernel_rfl) Try.func68 rfl rfl rfl (by kernel_rfl) (by kernel_rfl) ?_ ?_
  · intro args pre r h
    unfold sHText at h
    split at h
    · cases h; first | rfl | exact ⟨rfl, rfl⟩
    · cases h
  · intro args pre r h hp
    unfold sHText at h
    split at h
    rotate_left
    · cases h
    rename_i n0 n1 n2 n3 n4 n5 n6 n7 n8 n9 n10 n11 n12 n13 n14 n15 n16 n17 n18 n19 n20 n21 n22 n23 n24 n25 n26 n27 n28 n29 n30 n31
    cases h
    generalize hg0 : hashOf = g0
    generalize hL : lft Try.prog _ = L
    generalize hA : Arith.std = A
    cbv
    subst hA hg0 hL
    show Runs Try.prog 0 (.loop _) _ _
    refine loop_ruleR (N := env (lft Try.prog 0) 0 .std tbW [] []) rfl tbW_ok (CtsOk.nil _) (fun c st K _ h => h) (by kernel_rfl) [] (X := LT [n0, n1, n2, n3, n4, n5, n6, n7, n8, n9, n10, n11, n12, n13, n14, n15, n16, n17, n18, n19, n20, n21, n22, n23, n24, n25, n26, n27, n28, n29, n30, n31])
      (S := fun x => ⟨[.any, .c (.ptr 0 0), .any, .c (.sl 1 0 32 32), .c (.int .i64 x.i)] ++ List.replicate 13 .any, [.cells 59 [.int .u8 n0, .int .u8 n1, .int .u8 n2, .int .u8 n3, .int .u8 n4, .int .u8 n5, .int .u8 n6, .int .u8 n7, .int .u8 n8, .int .u8 n9, .int .u8 n10, .int .u8 n11, .int .u8 n12, .int .u8 n13, .int .u8 n14, .int .u8 n15, .int .u8 n16, .int .u8 n17, .int .u8 n18, .int .u8 n19, .int .u8 n20, .int .u8 n21, .int .u8 n22, .int .u8 n23, .int .u8 n24, .int .u8 n25, .int .u8 n26, .int .u8 n27, .int .u8 n28, .int .u8 n29, .int .u8 n30, .int .u8 n31], .cells 5 [.int .u8 (x.g 0), .int .u8 (x.g 1), .int .u8 (x.g 2), .int .u8 (x.g 3), .int .u8 (x.g 4), .int .u8 (x.g 5), .int .u8 (x.g 6), .int .u8 (x.g 7), .int .u8 (x.g 8), .int .u8 (x.g 9), .int .u8 (x.g 10), .int .u8 (x.g 11), .int .u8 (x.g 12), .int .u8 (x.g 13), .int .u8 (x.g 14), .int .u8 (x.g 15), .int .u8 (x.g 16), .int .u8 (x.g 17), .int .u8 (x.g 18), .int .u8 (x.g 19), .int .u8 (x.g 20), .int .u8 (x.g 21), .int .u8 (x.g 22), .int .u8 (x.g 23), .int .u8 (x.g 24), .int .u8 (x.g 25), .int .u8 (x.g 26), .int .u8 (x.g 27), .int .u8 (x.g 28), .int .u8 (x.g 29), .int .u8 (x.g 30), .int .u8 (x.g 31)]]⟩) (μ := fun x => 32 - x.i.toNat) ⟨0, fun _ => 0, by omega, by omega, fun j hj => by omega⟩ (by kernel_rfl) [0, 1] ?_ ?_
    · refine ⟨rfl, by decide, ?_, ?_⟩ <;> repeat' (first | exact trivial | exact rfl | apply And.intro)
    rintro ⟨i, g, hi0, hin, hall⟩
    generalize hg0 : hashOf = g0
    generalize hL : lft Try.prog _ = L
    generalize hA : Arith.std = A
    cbv
    subst hA hg0 hL
    replace hi0 : 0 ≤ i := hi0
    replace hin : i ≤ 32 := hin
    replace hall : ∀ j : Nat, (j : Int) < i → g j = [n0, n1, n2, n3, n4, n5, n6, n7, n8, n9, n10, n11, n12, n13, n14, n15, n16, n17, n18, n19, n20, n21, n22, n23, n24, n25, n26, n27, n28, n29, n30, n31].getD j 0 := hall
    refine Ife.mk (fun h => ?_) (fun h => ?_)
    · have hlt : i < 32 := of_decide_eq_true (p := i < 32) h
      refine Need.mk (show 0 ≤ i ∧ i < ((32 : Nat) : Int) by omega) fun _ => ?_
      refine Need.mk (show i.toNat < 32 by omega) fun _ => ?_
      refine Need.mk (show 0 ≤ i ∧ i < ((32 : Nat) : Int) by omega) fun _ => ?_
      refine Need.mk (show i.toNat < 32 by omega) fun _ => ?_
      refine Need.mk (show -9223372036854775808 ≤ i + 1 ∧ i + 1 ≤ 9223372036854775807 by omega) fun _ => ?_
      refine ⟨⟨i + 1, fun j => Arith.std.upd i.toNat j (Arith.std.sel i.toNat [n0, n1, n2, n3, n4, n5, n6, n7, n8, n9, n10, n11, n12, n13, n14, n15, n16, n17, n18, n19, n20, n21, n22, n23, n24, n25, n26, n27, n28, n29, n30, n31]) (g j), by omega, by omega, fun j hj => ?_⟩, [0, 1], by show 32 - (i + 1).toNat < 32 - i.toNat; omega, ?_⟩
      · show (if i.toNat = j then [n0, n1, n2, n3, n4, n5, n6, n7, n8, n9, n10, n11, n12, n13, n14, n15, n16, n17, n18, n19, n20, n21, n22, n23, n24, n25, n26, n27, n28, n29, n30, n31].getD i.toNat 0 else g j) = _
        by_cases hji : i.toNat = j
        · rw [if_pos hji, hji]
        · rw [if_neg hji]
          exact hall j (by omega)
      · refine ⟨rfl, by decide, ?_, ?_⟩ <;> repeat' (first | exact trivial | exact rfl | apply And.intro)
    · have hnlt : ¬ i < 32 := of_decide_eq_false (p := i < 32) h
      have hq : ∀ k : Nat, k < 32 → g k = [n0, n1, n2, n3, n4, n5, n6, n7, n8, n9, n10, n11, n12, n13, n14, n15, n16, n17, n18, n19, n20, n21, n22, n23, n24, n25, n26, n27, n28, n29, n30, n31].getD k 0 := fun k hk => hall k (by omega)
      have e : [g 0, g 1, g 2, g 3, g 4, g 5, g 6, g 7, g 8, g 9, g 10, g 11, g 12, g 13, g 14, g 15, g 16, g 17, g 18, g 19, g 20, g 21, g 22, g 23, g 24, g 25, g 26, g 27, g 28, g 29, g 30, g 31] = [n0, n1, n2, n3, n4, n5, n6, n7, n8, n9, n10, n11, n12, n13, n14, n15, n16, n17, n18, n19, n20, n21, n22, n23, n24, n25, n26, n27, n28, n29, n30, n31] := by
        rw [hq 0 (by decide), hq 1 (by decide), hq 2 (by decide), hq 3 (by decide), hq 4 (by decide), hq 5 (by decide), hq 6 (by decide), hq 7 (by decide), hq 8 (by decide), hq 9 (by decide), hq 10 (by decide), hq 11 (by decide), hq 12 (by decide), hq 13 (by decide), hq 14 (by decide), hq 15 (by decide), hq 16 (by decide), hq 17 (by decide), hq 18 (by decide), hq 19 (by decide), hq 20 (by decide), hq 21 (by decide), hq 22 (by decide), hq 23 (by decide), hq 24 (by decide), hq 25 (by decide), hq 26 (by decide), hq 27 (by decide), hq 28 (by decide), hq 29 (by decide), hq 30 (by decide), hq 31 (by decide)]
        rfl
      show hashOf [g 0, g 1, g 2, g 3, g 4, g 5, g 6, g 7, g 8, g 9, g 10, g 11, g 12, g 13, g 14, g 15, g 16, g 17, g 18, g 19, g 20, g 21, g 22, g 23, g 24, g 25, g 26, g 27, g 28, g 29, g 30, g 31] = hashOf [n0, n1, n2, n3, n4, n5, n6, n7, n8, n9, n10, n11, n12, n13, n14, n15, n16, n17, n18, n19, n20, n21, n22, n23, n24, n25, n26, n27, n28, n29, n30, n31]
      rw [e]

end Vx
end Go.Proofs.Ytfchejgohegbgaa
