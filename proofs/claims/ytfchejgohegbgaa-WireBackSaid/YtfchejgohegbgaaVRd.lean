/- Readers, by the walker. -/
import Derived.Test.YtfchejgohegbgaaVTbl
import Derived.Test.YtfchejgohegbgaaVxMeth
import Derived.Test.YtfchejgohegbgaaVWr
import Derived.Test.YtfchejgohegbgaaRdPlain
import Derived.Test.YtfchejgohegbgaaBase2
import Derived.Test.YtfchejgohegbgaaLebWalks
import Derived.Lib.BufferWrite
import Derived.Lib.UnsafeStr
namespace Go.Proofs.Ytfchejgohegbgaa
open Go.RowKit
set_option linter.unusedVariables false
set_option linter.unusedSimpArgs false

set_option maxRecDepth 100000 in
set_option maxHeartbeats 1000000 in
theorem cloneLite (s : ByteArray) (w : World) (hlim : s.size ≤ 281474976710656) :
    Calls Try.prog 78 #[.string s] w fun e w' => e = .returned (.string s) ∧ Below w.heap.size w w' := by
  by_cases h0 : s.size = 0
  · have hs : s = ⟨#[]⟩ := by
      apply ByteArray.ext
      exact Array.eq_empty_of_size_eq_zero h0
    subst hs
    go_enter Try.func78, Try.ntmps78
    go_wp2
    go_ret
    exact ⟨rfl, Below.refl _ _⟩
  · obtain ⟨i0, hi, hz0, hz1, hz2⟩ := info_parts info_u8
    have hinfo : (Try.prog.info? 5).map (·.size) = some 1 := by rw [hi]; simp [hz1]
    have hco : Try.prog.cellsOf 5 = 1 := by simp [Program.cellsOf, hi, hz1]
    obtain ⟨M, hM⟩ : ∃ M, M = madeCells (Value.int .u8 0).cells (((s.size : Nat) : Int).toNat * i0.size) := ⟨_, rfl⟩
    have hMs : M.size = s.size := by rw [hM, size_madeCells, hz1]; simp
    have hmk : ∀ W : World, (Instr.makeSlice 85 (.int .i64 (s.size : Int)) (.int .i64 (s.size : Int))).run Try.prog W = .ok (.slice (some ⟨W.heap.size, 0, none⟩) s.size s.size) (W.alloc (.cells M 5)) := fun W => by
      have h := run_make (P := Try.prog) W 85 5 i0 (.int .u8 0) Try.underlying85 hi hz0 .i64 .i64 (s.size : Int) (s.size : Int) (by omega) (by omega) (by rw [hz2]; omega) (by omega)
      rw [← hM] at h
      simpa using h
    clear hM
    have hcp := Lib.run_copy_row_string (P := Try.prog) (w.alloc (.cells M 5)) 85 9 3 5 w.heap.size 0 s.size s.size s M 5 Try.underlying85 hinfo (heap_alloc_new w _) (Nat.le_refl _) (by omega)
    obtain ⟨Y, hY⟩ : ∃ Y, Y = (M.toList.take 0 ++ Lib.byteCells s.data.toList ++ M.toList.drop (0 + s.size)).toArray := ⟨_, rfl⟩
    rw [← hY] at hcp
    have hYl : Y.toList = Lib.byteCells s.data.toList := by
      rw [hY, List.toList_toArray, List.take_zero, List.nil_append, List.drop_of_length_le (by rw [Array.length_toList]; omega), List.append_nil]
    have hYs : Y.size = s.size := by rw [← Array.length_toList, hYl, Lib.byteCells_length, ← Lib.size_eq]
    have hgY : ((w.alloc (.cells M 5)).setRow w.heap.size Y).heap[w.heap.size]? = some (.cells Y 5 (0, 0)) := setRow_heap _ _ M _ 5 (0, 0) (heap_alloc_new w _)
    have hne : s.data.toList ≠ [] := fun e => h0 (by rw [Lib.size_eq, e]; rfl)
    have hUS := Lib.run_unsafeString_row (P := Try.prog) ((w.alloc (.cells M 5)).setRow w.heap.size Y) 98 3 9 5 Try.underlying98 hco w.heap.size Y.size (by unfold World.shape?; rw [hgY]) s.data.toList hne (by rw [← Lib.size_eq]; omega) (by rw [← Lib.size_eq]; omega)
      (fun j x hx => Lib.cells_of_row hgY Y.size j _ (by rw [List.take_of_length_le (by rw [Array.length_toList]; exact Nat.le_refl _), hYl]; simp [Lib.byteCells, hx]))
    rw [← Lib.size_eq] at hUS
    clear hY
    go_enter Try.func78, Try.ntmps78
    go_wp2
    go_ret
    have hb1 : Below w.heap.size w (w.alloc (.cells M 5)) := (Below.refl _ w).alloc (Nat.le_refl _) _
    have hb2 : Below w.heap.size (w.alloc (.cells M 5)) ((w.alloc (.cells M 5)).setRow w.heap.size Y) := ⟨rfl, rfl, rfl, by simp, fun k hk => setRow_other _ _ _ _ (by omega)⟩
    exact ⟨rfl, Lib.below_freeze (hb1.trans hb2) (p := ⟨w.heap.size, 0, none⟩) (Nat.le_refl _) _⟩

set_option maxRecDepth 100000 in
set_option maxHeartbeats 1000000 in
theorem cloneStr (s : ByteArray) (w : World) (hlim : s.size ≤ 281474976710656) :
    Calls Try.prog 73 #[.string s] w fun e w' => e = .returned (.string s) ∧ Below w.heap.size w w' := by
  go_enter Try.func73, Try.ntmps73
  go_wp2_with (go_at_call 78; refine (cloneLite s _ hlim).mono ?_; rintro e w2 ⟨rfl, hx⟩)
  go_ret
  exact ⟨rfl, hx⟩

theorem lebNextB (l : List UInt8) (v : Int) (W : World) (hl : l.length ≤ 140737488351232) (hv : isI64 v) :
    Calls Try.prog 30 #[.string ⟨l.toArray⟩, .int .i64 v] W fun e w' =>
      e = .returned (.tuple #[.int .i64 (Leb.next l v).1, .int .i64 (Leb.next l v).2.1, .int .i64 (Leb.next l v).2.2]) ∧ Below W.heap.size W w' := by
  refine (lebNext l v W hl hv).mono ?_
  rintro e w' ⟨he, rfl⟩
  exact ⟨he, Below.refl _ _⟩

namespace Vx
def sClone : List SV → Option (Prop × SV)
  | [.c (.str l)] => some (l.length ≤ 281474976710656, .c (.str l))
  | _ => none

def sLebNext : List SV → Option (Prop × SV)
  | [.c (.str l), .c (.int .i64 v)] => some (l.length ≤ 140737488351232 ∧ isI64 v, .tup [(some (.int .i64 (Leb.next l v).1), []), (some (.int .i64 (Leb.next l v).2.1), []), (some (.int .i64 (Leb.next l v).2.2), [])])
  | _ => none

theorem cloneP : Pure Try.prog 73 sClone := by
  refine ⟨by kernel_rfl, fun args pre r h hp us hs W => ?_⟩
  unfold sClone at h
  split at h
  rotate_left
  · cases h
  rename_i l
  cases h
  obtain ⟨u0, _, rfl, a0, b0⟩ := hs
  obtain rfl : .string ⟨(l).toArray⟩ = u0 := Option.some.inj a0
  cases b0
  refine Calls.mono (cloneStr _ W (by exact hp)) fun e W' he => ?_
  obtain ⟨rfl, hb⟩ := he
  exact ⟨_, rfl, rfl, hb⟩

theorem lebNextP : Pure Try.prog 30 sLebNext := by
  refine ⟨by kernel_rfl, fun args pre r h hp us hs W => ?_⟩
  unfold sLebNext at h
  split at h
  rotate_left
  · cases h
  rename_i l v
  cases h
  obtain ⟨u0, _, rfl, a0, b0⟩ := hs
  obtain rfl : .string ⟨(l).toArray⟩ = u0 := Option.some.inj a0
  obtain ⟨u1, _, rfl, a1, b1⟩ := b0
  obtain rfl : .int .i64 v = u1 := Option.some.inj a1
  cases b1
  refine Calls.mono (lebNextB l v W hp.1 hp.2) fun e W' he => ?_
  obtain ⟨rfl, hb⟩ := he
  exact ⟨_, rfl, ⟨[.int .i64 (Leb.next l v).1, .int .i64 (Leb.next l v).2.1, .int .i64 (Leb.next l v).2.2], ⟨_, _, rfl, rfl, _, _, rfl, rfl, _, _, rfl, rfl, rfl⟩, rfl⟩, hb⟩

def sFail : Spec1
  | [.str l, .int .i64 a, .int .i64 b], [.c (.int .i64 e)] => some (True, .tup [], [.str l, .int .i64 a, .int .i64 (failS b e)])
  | _, _ => none

def sNext : Spec1
  | [.str l, .int .i64 a, .int .i64 b], [] => some (okRd l a b, .tup [(some (.int .i64 (nextS l a b).1), []), (some (.int .i64 (nextS l a b).2.1), [])], [.str l, .int .i64 a, .int .i64 (nextS l a b).2.2])
  | _, _ => none

def sWithin : Spec1
  | [.str l, .int .i64 a, .int .i64 b], [.c (.int .i64 lo), .c (.int .i64 hi), .c (.int .i64 be), .c (.int .i64 ab)] => some (okRd l a b, .c (.int .i64 (withinS l a b lo hi be ab).1), [.str l, .int .i64 (withinS l a b lo hi be ab).2.1, .int .i64 (withinS l a b lo hi be ab).2.2])
  | _, _ => none

def sRdNum : Spec1
  | [.str l, .int .i64 a, .int .i64 b], [.c (.int .i64 lo), .c (.int .i64 hi)] => some (okRd l a b, .c (.int .i64 (numS l a b lo hi).1), [.str l, .int .i64 (numS l a b lo hi).2.1, .int .i64 (numS l a b lo hi).2.2])
  | _, _ => none

def sCount : Spec1
  | [.str l, .int .i64 a, .int .i64 b], [.c (.int .i64 hi)] => some (okRd l a b, .c (.int .i64 (countS l a b hi).1), [.str l, .int .i64 (countS l a b hi).2.1, .int .i64 (countS l a b hi).2.2])
  | _, _ => none

def sRdText : Spec1
  | [.str l, .int .i64 a, .int .i64 b], [.c (.int .i64 hi)] => some (okRd l a b, .c (.str (textS l a b hi).1), [.str l, .int .i64 (textS l a b hi).2.1, .int .i64 (textS l a b hi).2.2])
  | _, _ => none

def sRdErr : Spec1
  | [.str l, .int .i64 a, .int .i64 b], [] => some (True, .c (.int .i64 b), [.str l, .int .i64 a, .int .i64 b])
  | _, _ => none

def sRdAt : Spec1
  | [.str l, .int .i64 a, .int .i64 b], [] => some (True, .c (.int .i64 a), [.str l, .int .i64 a, .int .i64 b])
  | _, _ => none

def sRdEnd : Spec1
  | [.str l, .int .i64 a, .int .i64 b], [] => some (okRd l a b, .c (.int .i64 (endS l a b)), [.str l, .int .i64 a, .int .i64 b])
  | _, _ => none

def sOf : List SV → Option (Prop × List CV)
  | [.c (.str l)] => some (True, [.str l, .int .i64 0, .int .i64 0])
  | _ => none

set_option maxRecDepth 100000 in
set_option maxHeartbeats 400000 in
theorem failP : Meth Try.prog 72 92 sFail := by
  refine Meth.of (E := tb) (C := []) [] 0 [] tb_ok (CtsOk.nil _) (by kernel_rfl) Try.func72 rfl rfl rfl (by kernel_rfl) (by kernel_rfl) ?_ ?_
  · intro cs args pre r cs' h
    unfold sFail at h
    split at h
    · cases h; first | rfl | exact ⟨rfl, rfl⟩
    · cases h
  · intro cs args pre r cs' h hp
    unfold sFail at h
    split at h
    rotate_left
    · cases h
    rename_i l a b e
    cases h
    generalize hg0 : failS = g0
    generalize hA : Arith.std = A
    cbv
    subst hA hg0
    simp only [Ife_iff, Need_iff, Arith.std]
    by_cases hb : b = 0 <;> simp_all [failS, cvSame]

set_option maxRecDepth 100000 in
set_option maxHeartbeats 400000 in
theorem nextP : Meth Try.prog 71 92 sNext := by
  refine Meth.of (E := tb) (C := [(30, appPure sLebNext), (72, appMeth 92 sFail)]) [] 0 [(2, [(0, true), (1, true), (2, true), (3, true), (4, true), (5, true)]), (3, [(0, true), (1, true), (2, true), (3, true), (4, true), (5, true), (6, true), (7, true), (8, false), (9, true), (10, true), (11, true), (12, true), (13, true), (14, true), (15, true)])] tb_ok (CtsOk.cons (Pure.ct lebNextP) <| CtsOk.cons (Meth.ct failP) <| CtsOk.nil _) (by kernel_rfl) Try.func71 rfl rfl rfl (by kernel_rfl) (by kernel_rfl) ?_ ?_
  · intro cs args pre r cs' h
    unfold sNext at h
    split at h
    · cases h; first | rfl | exact ⟨rfl, rfl⟩
    · cases h
  · intro cs args pre r cs' h hp
    unfold sNext at h
    split at h
    rotate_left
    · cases h
    rename_i l a b
    cases h
    unfold sLebNext sFail
    generalize hg0 : failS = g0
    generalize hg1 : nextS = g1
    generalize hg2 : Leb.next = g2
    generalize hg3 : isI64 = g3
    generalize hg4 : okRd = g4
    generalize hg5 : (List.length : List UInt8 → Nat) = g5
    generalize hA : Arith.std = A
    cbv
    subst hA hg0 hg1 hg2 hg3 hg4 hg5
    simp only [Ife_iff, Need_iff, Arith.std]
    have h64 : isI64 a := by obtain ⟨h1, h2, h3, h4, h5⟩ := hp; unfold isI64; omega
    have hlen : l.length ≤ 140737488351232 := hp.2.2.1
    by_cases hb : b = 0
    · subst hb
      refine ⟨fun h => by simp at h, fun _ => ⟨⟨hlen, h64⟩, fun _ => ⟨trivial, fun _ => ?_⟩⟩⟩
      simp [nextS, failS]
    · refine ⟨fun h => ?_, fun h => by simp [hb] at h⟩
      simp [nextS, hb]

set_option maxRecDepth 100000 in
set_option maxHeartbeats 400000 in
theorem withinP : Meth Try.prog 70 92 sWithin := by
  refine Meth.of (E := tb) (C := [(71, appMeth 92 sNext), (72, appMeth 92 sFail)]) [] 0 [] tb_ok (CtsOk.cons (Meth.ct nextP) <| CtsOk.cons (Meth.ct failP) <| CtsOk.nil _) (by kernel_rfl) Try.func70 rfl rfl rfl (by kernel_rfl) (by kernel_rfl) ?_ ?_
  · intro cs args pre r cs' h
    unfold sWithin at h
    split at h
    · cases h; first | rfl | exact ⟨rfl, rfl⟩
    · cases h
  · intro cs args pre r cs' h hp
    unfold sWithin at h
    split at h
    rotate_left
    · cases h
    rename_i l a b lo hi be ab
    cases h
    unfold sNext sFail
    generalize hg0 : failS = g0
    generalize hg1 : nextS = g1
    generalize hg2 : withinS = g2
    generalize hg3 : okRd = g3
    generalize hg4 : (List.length : List UInt8 → Nat) = g4
    generalize hA : Arith.std = A
    cbv
    subst hA hg0 hg1 hg2 hg3 hg4
    simp only [Ife_iff, Need_iff, Arith.std]
    refine ⟨hp, fun _ => ?_⟩
    unfold withinS
    generalize nextS l a b = r
    obtain ⟨v, p, e⟩ := r
    unfold failS
    dsimp only
    by_cases he : e = 0 <;> by_cases h1 : v < lo <;> by_cases h2 : hi < v <;> by_cases hx : be = 0 <;> by_cases hy : ab = 0 <;> simp [he, h1, h2, hx, hy]

set_option maxRecDepth 100000 in
set_option maxHeartbeats 400000 in
theorem rdNumP : Meth Try.prog 49 92 sRdNum := by
  refine Meth.of (E := tb) (C := [(70, appMeth 92 sWithin)]) [] 0 [] tb_ok (CtsOk.cons (Meth.ct withinP) <| CtsOk.nil _) (by kernel_rfl) Try.func49 rfl rfl rfl (by kernel_rfl) (by kernel_rfl) ?_ ?_
  · intro cs args pre r cs' h
    unfold sRdNum at h
    split at h
    · cases h; first | rfl | exact ⟨rfl, rfl⟩
    · cases h
  · intro cs args pre r cs' h hp
    unfold sRdNum at h
    split at h
    rotate_left
    · cases h
    rename_i l a b lo hi
    cases h
    unfold sWithin
    generalize hg0 : withinS = g0
    generalize hg1 : numS = g1
    generalize hg2 : okRd = g2
    generalize hA : Arith.std = A
    cbv
    subst hA hg0 hg1 hg2
    simp only [Ife_iff, Need_iff, Arith.std]
    refine ⟨hp, fun _ => ?_⟩
    rw [within_num]
    simp

set_option maxRecDepth 100000 in
set_option maxHeartbeats 400000 in
theorem rdCountP : Meth Try.prog 55 92 sCount := by
  refine Meth.of (E := tb) (C := [(70, appMeth 92 sWithin)]) [] 0 [] tb_ok (CtsOk.cons (Meth.ct withinP) <| CtsOk.nil _) (by kernel_rfl) Try.func55 rfl rfl rfl (by kernel_rfl) (by kernel_rfl) ?_ ?_
  · intro cs args pre r cs' h
    unfold sCount at h
    split at h
    · cases h; first | rfl | exact ⟨rfl, rfl⟩
    · cases h
  · intro cs args pre r cs' h hp
    unfold sCount at h
    split at h
    rotate_left
    · cases h
    rename_i l a b hi
    cases h
    unfold sWithin
    generalize hg0 : withinS = g0
    generalize hg1 : countS = g1
    generalize hg2 : okRd = g2
    generalize hA : Arith.std = A
    cbv
    subst hA hg0 hg1 hg2
    simp only [Ife_iff, Need_iff, Arith.std]
    refine ⟨hp, fun _ => ?_⟩
    rw [within_count]
    simp

set_option maxRecDepth 100000 in
set_option maxHeartbeats 400000 in
theorem rdTextP : Meth Try.prog 51 92 sRdText := by
  refine Meth.of (E := tb) (C := [(71, appMeth 92 sNext), (72, appMeth 92 sFail), (73, appPure sClone)]) [] 0 [(9, [(0, true), (1, true), (2, true), (3, true), (4, true), (5, true), (6, true), (7, true), (8, true), (9, true), (10, false), (11, true)])] tb_ok (CtsOk.cons (Meth.ct nextP) <| CtsOk.cons (Meth.ct failP) <| CtsOk.cons (Pure.ct cloneP) <| CtsOk.nil _) (by kernel_rfl) Try.func51 rfl rfl rfl (by kernel_rfl) (by kernel_rfl) ?_ ?_
  · intro cs args pre r cs' h
    unfold sRdText at h
    split at h
    · cases h; first | rfl | exact ⟨rfl, rfl⟩
    · cases h
  · intro cs args pre r cs' h hp
    unfold sRdText at h
    split at h
    rotate_left
    · cases h
    rename_i l a b hi
    cases h
    unfold sNext sFail sClone
    generalize hg0 : failS = g0
    generalize hg1 : nextS = g1
    generalize hg2 : textS = g2
    generalize hg3 : okRd = g3
    generalize hg4 : (List.length : List UInt8 → Nat) = g4
    generalize hA : Arith.std = A
    cbv
    subst hA hg0 hg1 hg2 hg3 hg4
    simp only [Ife_iff, Need_iff, Arith.std]
    refine ⟨hp, fun _ => ?_⟩
    obtain ⟨g1, g2, g3, g4⟩ := next_le l a b hp
    obtain ⟨k1, k2, k3, k4, k5⟩ := hp
    have hS := text_eq l a b hi
    have hz : (nextS l a b).2.2 ≠ 0 → (nextS l a b).1 = 0 := fun h => (text_bad l a b hi h).2
    rw [hS]
    clear hS
    generalize nextS l a b = r at g1 g2 g3 g4 hz
    obtain ⟨v, p, e⟩ := r
    dsimp only at g1 g2 g3 g4 hz ⊢
    have hcut : List.drop p.toNat (List.take (p + v).toNat l) = cut l p v := by
      unfold cut
      rw [List.drop_take]
      congr 1
      omega
    rw [hcut]
    have hcl : (cut l p v).length ≤ 281474976710656 := by
      unfold cut
      rw [List.length_take, List.length_drop]
      omega
    have hcl' : (cut l p v).length.le 281474976710656 := hcl
    have hf1 : fitStd IntKind.i64 ((l.length : Int) - p) := by unfold fitStd; simp [IntKind.signed, IntKind.bits]; omega
    have hf2 : fitStd IntKind.i64 (p + v) := by unfold fitStd; simp [IntKind.signed, IntKind.bits]; omega
    have hpv : p ≤ p + v := by omega
    
    by_cases he : e = 0
    · subst he
      by_cases h1 : hi < v <;> by_cases h2 : (l.length : Int) - p < v
      · simp [h1, h2, failS, hf1]
      · simp [h1, h2, failS, hf1]
      · simp [h1, h2, failS, hf1]
      · have h3 : p + v ≤ (l.length : Int) := by omega
        simp [h1, h2, failS, hf1, hf2, hcl, hcl', g3, g1, hpv, h3]
    · obtain rfl := hz he
      have h2 : ¬ ((l.length : Int) - p < 0) := by omega
      by_cases h1 : hi < 0
      · simp [h1, h2, failS, hf1, he]
      · simp [h1, h2, failS, hf1, he]

set_option maxRecDepth 100000 in
set_option maxHeartbeats 400000 in
theorem rdEndP : Meth Try.prog 59 92 sRdEnd := by
  refine Meth.of (E := tb) (C := []) [] 0 [(1, [(0, true), (1, true), (2, true), (3, true), (4, true), (5, true), (6, true), (7, true), (8, true), (9, true), (10, true), (11, true), (12, true), (13, true), (14, true), (15, true), (16, true)])] tb_ok (CtsOk.nil _) (by kernel_rfl) Try.func59 rfl rfl rfl (by kernel_rfl) (by kernel_rfl) ?_ ?_
  · intro cs args pre r cs' h
    unfold sRdEnd at h
    split at h
    · cases h; first | rfl | exact ⟨rfl, rfl⟩
    · cases h
  · intro cs args pre r cs' h hp
    unfold sRdEnd at h
    split at h
    rotate_left
    · cases h
    rename_i l a b
    cases h
    generalize hg0 : endS = g0
    generalize hg1 : okRd = g1
    generalize hg2 : (List.length : List UInt8 → Nat) = g2
    generalize hA : Arith.std = A
    cbv
    subst hA hg0 hg1 hg2
    simp only [Ife_iff, Need_iff, Arith.std]
    unfold endS
    by_cases h1 : b = 0 <;> by_cases h2 : a < (l.length : Int) <;> simp [h1, h2]

set_option maxRecDepth 100000 in
set_option maxHeartbeats 400000 in
theorem rdErrP : Meth Try.prog 58 92 sRdErr := by
  refine Meth.of (E := tb) (C := []) [] 0 [] tb_ok (CtsOk.nil _) (by kernel_rfl) Try.func58 rfl rfl rfl (by kernel_rfl) (by kernel_rfl) ?_ ?_
  · intro cs args pre r cs' h
    unfold sRdErr at h
    split at h
    · cases h; first | rfl | exact ⟨rfl, rfl⟩
    · cases h
  · intro cs args pre r cs' h hp
    unfold sRdErr at h
    split at h
    rotate_left
    · cases h
    rename_i l a b
    cases h
    generalize hA : Arith.std = A
    cbv

set_option maxRecDepth 100000 in
set_option maxHeartbeats 400000 in
theorem ofP : Makes Try.prog 48 92 sOf := by
  refine Makes.of (E := tb) (C := []) [] 0 [] tb_ok (CtsOk.nil _) (by kernel_rfl) Try.func48 rfl rfl rfl (by kernel_rfl) (by kernel_rfl) ?_ ?_
  · intro args pre cs h
    unfold sOf at h
    split at h
    · cases h; first | rfl | exact ⟨rfl, rfl⟩
    · cases h
  · intro args pre cs h hp
    unfold sOf at h
    split at h
    rotate_left
    · cases h
    rename_i l
    cases h
    generalize hA : Arith.std = A
    cbv

end Vx
end Go.Proofs.Ytfchejgohegbgaa
