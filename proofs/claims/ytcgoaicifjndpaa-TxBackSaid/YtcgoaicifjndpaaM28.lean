/- Readers, by the walker. -/
import Derived.Test.YtcgoaicifjndpaaM20
import Derived.Test.YtcgoaicifjndpaaM11
import Derived.Test.YtcgoaicifjndpaaM27
import Derived.Test.YtcgoaicifjndpaaM1
import Derived.Test.YtcgoaicifjndpaaM21
import Derived.Test.YtcgoaicifjndpaaLebWalks
import Derived.Lib.BufferWrite
import Derived.Lib.UnsafeStr
import Derived.Test.YtcgoaicifjndpaaM23
section
namespace Go.Proofs.Ytcgoaicifjndpaa
open Go.RowKit
set_option linter.unusedVariables false
set_option linter.unusedSimpArgs false

set_option maxRecDepth 100000 in
set_option maxHeartbeats 1000000 in
theorem cloneLite (s : ByteArray) (w : World) (hlim : s.size ≤ 281474976710656) :
    Calls Try.prog 142 #[.string s] w fun e w' => e = .returned (.string s) ∧ Below w.heap.size w w' := by
  by_cases h0 : s.size = 0
  · have hs : s = ⟨#[]⟩ := by
      apply ByteArray.ext
      exact Array.eq_empty_of_size_eq_zero h0
    subst hs
    go_enter Try.func142, Try.ntmps142
    go_wp2
    go_ret
    exact ⟨rfl, Below.refl _ _⟩
  · obtain ⟨i0, hi, hz0, hz1, hz2⟩ := info_parts info_u8
    have hinfo : (Try.prog.info? 5).map (·.size) = some 1 := by rw [hi]; simp [hz1]
    have hco : Try.prog.cellsOf 5 = 1 := by simp [Program.cellsOf, hi, hz1]
    obtain ⟨M, hM⟩ : ∃ M, M = madeCells (Value.int .u8 0).cells (((s.size : Nat) : Int).toNat * i0.size) := ⟨_, rfl⟩
    have hMs : M.size = s.size := by rw [hM, size_madeCells, hz1]; simp
    have hmk : ∀ W : World, (Instr.makeSlice 188 (.int .i64 (s.size : Int)) (.int .i64 (s.size : Int))).run Try.prog W = .ok (.slice (some ⟨W.heap.size, 0, none⟩) s.size s.size) (W.alloc (.cells M 5)) := fun W => by
      have h := run_make (P := Try.prog) W 188 5 i0 (.int .u8 0) Try.underlying188 hi hz0 .i64 .i64 (s.size : Int) (s.size : Int) (by omega) (by omega) (by rw [hz2]; omega) (by omega)
      rw [← hM] at h
      simpa using h
    clear hM
    have hcp := Lib.run_copy_row_string (P := Try.prog) (w.alloc (.cells M 5)) 188 9 3 5 w.heap.size 0 s.size s.size s M 5 Try.underlying188 hinfo (heap_alloc_new w _) (Nat.le_refl _) (by omega)
    obtain ⟨Y, hY⟩ : ∃ Y, Y = (M.toList.take 0 ++ Lib.byteCells s.data.toList ++ M.toList.drop (0 + s.size)).toArray := ⟨_, rfl⟩
    rw [← hY] at hcp
    have hYl : Y.toList = Lib.byteCells s.data.toList := by
      rw [hY, List.toList_toArray, List.take_zero, List.nil_append, List.drop_of_length_le (by rw [Array.length_toList]; omega), List.append_nil]
    have hYs : Y.size = s.size := by rw [← Array.length_toList, hYl, Lib.byteCells_length, ← Lib.size_eq]
    have hgY : ((w.alloc (.cells M 5)).setRow w.heap.size Y).heap[w.heap.size]? = some (.cells Y 5 (0, 0)) := setRow_heap _ _ M _ 5 (0, 0) (heap_alloc_new w _)
    have hne : s.data.toList ≠ [] := fun e => h0 (by rw [Lib.size_eq, e]; rfl)
    have hUS := Lib.run_unsafeString_row (P := Try.prog) ((w.alloc (.cells M 5)).setRow w.heap.size Y) 219 3 9 5 Try.underlying219 hco w.heap.size Y.size (by unfold World.shape?; rw [hgY]) s.data.toList hne (by rw [← Lib.size_eq]; omega) (by rw [← Lib.size_eq]; omega)
      (fun j x hx => Lib.cells_of_row hgY Y.size j _ (by rw [List.take_of_length_le (by rw [Array.length_toList]; exact Nat.le_refl _), hYl]; simp [Lib.byteCells, hx]))
    rw [← Lib.size_eq] at hUS
    clear hY
    go_enter Try.func142, Try.ntmps142
    go_wp2
    go_ret
    have hb1 : Below w.heap.size w (w.alloc (.cells M 5)) := (Below.refl _ w).alloc (Nat.le_refl _) _
    have hb2 : Below w.heap.size (w.alloc (.cells M 5)) ((w.alloc (.cells M 5)).setRow w.heap.size Y) := ⟨rfl, rfl, rfl, by simp, fun k hk => setRow_other _ _ _ _ (by omega)⟩
    exact ⟨rfl, Lib.below_freeze (hb1.trans hb2) (p := ⟨w.heap.size, 0, none⟩) (Nat.le_refl _) _⟩

set_option maxRecDepth 100000 in
set_option maxHeartbeats 1000000 in
theorem cloneStr (s : ByteArray) (w : World) (hlim : s.size ≤ 281474976710656) :
    Calls Try.prog 85 #[.string s] w fun e w' => e = .returned (.string s) ∧ Below w.heap.size w w' := by
  go_enter Try.func85, Try.ntmps85
  go_wp2_with (go_at_call 142; refine (cloneLite s _ hlim).mono ?_; rintro e w2 ⟨rfl, hx⟩)
  go_ret
  exact ⟨rfl, hx⟩

theorem lebNextB (l : List UInt8) (v : Int) (W : World) (hl : l.length ≤ 140737488351232) (hv : isI64 v) :
    Calls Try.prog 112 #[.string ⟨l.toArray⟩, .int .i64 v] W fun e w' =>
      e = .returned (.tuple #[.int .i64 (Leb.next l v).1, .int .i64 (Leb.next l v).2.1, .int .i64 (Leb.next l v).2.2]) ∧ Below W.heap.size W w' := by
  refine (lebNext l v W hl hv).mono ?_
  rintro e w' ⟨he, rfl⟩
  exact ⟨he, Below.refl _ _⟩

namespace Vx
def sClone : List SV → Option (Prop × SV)
  | [.c (.str l)] => some (l.length ≤ 281474976710656, .c (.str l))
  | _ => none

def sLebNext : List SV → Option (Prop × SV)
  | [.c (.str l), .c (.int .i64 v)] => some (l.length ≤ 140737488351232 ∧ isI64 v, .tup [(some (.int .i64 (Leb.next l v).1), []), (some (.int .i64 (Leb.next l v).2.1), []), (some (.int .i64 (Leb.next l v).2.2), [])])
  | _ => none

theorem cloneP : Pure Try.prog 85 sClone := by
  refine ⟨by kernel_rfl, fun args pre r h hp us hs W => ?_⟩
  unfold sClone at h
  split at h
  rotate_left
  · cases h
  rename_i l
  cases h
  obtain ⟨u0, _, rfl, a0, b0⟩ := hs
  obtain rfl : .string ⟨(l).toArray⟩ = u0 := Option.some.inj a0
  cases b0
  refine Calls.mono (cloneStr _ W (by exact hp)) fun e W' he => ?_
  obtain ⟨rfl, hb⟩ := he
  exact ⟨_, rfl, rfl, hb⟩

theorem lebNextP : Pure Try.prog 112 sLebNext := by
  refine ⟨by kernel_rfl, fun args pre r h hp us hs W => ?_⟩
  unfold sLebNext at h
  split at h
  rotate_left
  · cases h
  rename_i l v
  cases h
  obtain ⟨u0, _, rfl, a0, b0⟩ := hs
  obtain rfl : .string ⟨(l).toArray⟩ = u0 := Option.some.inj a0
  obtain ⟨u1, _, rfl, a1, b1⟩ := b0
  obtain rfl : .int .i64 v = u1 := Option.some.inj a1
  cases b1
  refine Calls.mono (lebNextB l v W hp.1 hp.2) fun e W' he => ?_
  obtain ⟨rfl, hb⟩ := he
  exact ⟨_, rfl, ⟨[.int .i64 (Leb.next l v).1, .int .i64 (Leb.next l v).2.1, .int .i64 (Leb.next l v).2.2], ⟨_, _, rfl, rfl, _, _, rfl, rfl, _, _, rfl, rfl, rfl⟩, rfl⟩, hb⟩

def sFail : Spec1
  | [.str l, .int .i64 a, .int .i64 b], [.c (.int .i64 e)] => some (True, .tup [], [.str l, .int .i64 a, .int .i64 (failS b e)])
  | _, _ => none

def sNext : Spec1
  | [.str l, .int .i64 a, .int .i64 b], [] => some (okRd l a b, .tup [(some (.int .i64 (nextS l a b).1), []), (some (.int .i64 (nextS l a b).2.1), [])], [.str l, .int .i64 a, .int .i64 (nextS l a b).2.2])
  | _, _ => none

def sWithin : Spec1
  | [.str l, .int .i64 a, .int .i64 b], [.c (.int .i64 lo), .c (.int .i64 hi), .c (.int .i64 be), .c (.int .i64 ab)] => some (okRd l a b, .c (.int .i64 (withinS l a b lo hi be ab).1), [.str l, .int .i64 (withinS l a b lo hi be ab).2.1, .int .i64 (withinS l a b lo hi be ab).2.2])
  | _, _ => none

def sRdNum : Spec1
  | [.str l, .int .i64 a, .int .i64 b], [.c (.int .i64 lo), .c (.int .i64 hi)] => some (okRd l a b, .c (.int .i64 (numS l a b lo hi).1), [.str l, .int .i64 (numS l a b lo hi).2.1, .int .i64 (numS l a b lo hi).2.2])
  | _, _ => none

def sCount : Spec1
  | [.str l, .int .i64 a, .int .i64 b], [.c (.int .i64 hi)] => some (okRd l a b, .c (.int .i64 (countS l a b hi).1), [.str l, .int .i64 (countS l a b hi).2.1, .int .i64 (countS l a b hi).2.2])
  | _, _ => none

def sRdText : Spec1
  | [.str l, .int .i64 a, .int .i64 b], [.c (.int .i64 hi)] => some (okRd l a b, .c (.str (textS l a b hi).1), [.str l, .int .i64 (textS l a b hi).2.1, .int .i64 (textS l a b hi).2.2])
  | _, _ => none

def sRdErr : Spec1
  | [.str l, .int .i64 a, .int .i64 b], [] => some (True, .c (.int .i64 b), [.str l, .int .i64 a, .int .i64 b])
  | _, _ => none


def sRdEnd : Spec1
  | [.str l, .int .i64 a, .int .i64 b], [] => some (okRd l a b, .c (.int .i64 (endS l a b)), [.str l, .int .i64 a, .int .i64 b])
  | _, _ => none

def sOf : List SV → Option (Prop × List CV)
  | [.c (.str l)] => some (True, [.str l, .int .i64 0, .int .i64 0])
  | _ => none

set_option maxRecDepth 100000 in
set_option maxHeartbeats 400000 in
theorem failP : Meth Try.prog 171 196 sFail := by
  refine Meth.of (E := tb) (C := []) [] 0 [] tb_ok (CtsOk.nil _) (by kernel_rfl) Try.func171 rfl rfl rfl (by kernel_rfl) (by kernel_rfl) ?_ ?_
  · intro cs args pre r cs' h
    unfold sFail at h
    split at h
    · cases h; first | rfl | exact ⟨rfl, rfl⟩
    · cases h
  · intro cs args pre r cs' h hp
    unfold sFail at h
    split at h
    rotate_left
    · cases h
    rename_i l a b e
    cases h
    generalize hg0 : failS = g0
    generalize hA : Arith.std = A
    cbv
    subst hA hg0
    simp only [Ife_iff, Need_iff, Arith.std]
    by_cases hb : b = 0 <;> simp_all [failS, cvSame]

set_option maxRecDepth 100000 in
set_option maxHeartbeats 400000 in
theorem nextP : Meth Try.prog 170 196 sNext := by
  refine Meth.of (E := tb) (C := [(112, appPure sLebNext), (171, appMeth 196 sFail)]) [] 0 [(2, [(0, true), (1, true), (2, true), (3, true), (4, true), (5, true)]), (3, [(0, true), (1, true), (2, true), (3, true), (4, true), (5, true), (6, true), (7, true), (8, false), (9, true), (10, true), (11, true), (12, true), (13, true), (14, true), (15, true)])] tb_ok (CtsOk.cons (Pure.ct lebNextP) <| CtsOk.cons (Meth.ct failP) <| CtsOk.nil _) (by kernel_rfl) Try.func170 rfl rfl rfl (by kernel_rfl) (by kernel_rfl) ?_ ?_
  · intro cs args pre r cs' h
    unfold sNext at h
    split at h
    · cases h; first | rfl | exact ⟨rfl, rfl⟩
    · cases h
  · intro cs args pre r cs' h hp
    unfold sNext at h
    split at h
    rotate_left
    · cases h
    rename_i l a b
    cases h
    unfold sLebNext sFail
    generalize hg0 : failS = g0
    generalize hg1 : nextS = g1
    generalize hg2 : Leb.next = g2
    generalize hg3 : isI64 = g3
    generalize hg4 : okRd = g4
    generalize hg5 : (List.length : List UInt8 → Nat) = g5
    generalize hA : Arith.std = A
    cbv
    subst hA hg0 hg1 hg2 hg3 hg4 hg5
    simp only [Ife_iff, Need_iff, Arith.std]
    have h64 : isI64 a := by obtain ⟨h1, h2, h3, h4, h5⟩ := hp; unfold isI64; omega
    have hlen : l.length ≤ 140737488351232 := hp.2.2.1
    by_cases hb : b = 0
    · subst hb
      refine ⟨fun h => by simp at h, fun _ => ⟨⟨hlen, h64⟩, fun _ => ⟨trivial, fun _ => ?_⟩⟩⟩
      simp [nextS, failS]
    · refine ⟨fun h => ?_, fun h => by simp [hb] at h⟩
      simp [nextS, hb]

set_option maxRecDepth 100000 in
set_option maxHeartbeats 400000 in
theorem withinP : Meth Try.prog 169 196 sWithin := by
  refine Meth.of (E := tb) (C := [(170, appMeth 196 sNext), (171, appMeth 196 sFail)]) [] 0 [] tb_ok (CtsOk.cons (Meth.ct nextP) <| CtsOk.cons (Meth.ct failP) <| CtsOk.nil _) (by kernel_rfl) Try.func169 rfl rfl rfl (by kernel_rfl) (by kernel_rfl) ?_ ?_
  · intro cs args pre r cs' h
    unfold sWithin at h
    split at h
    · cases h; first | rfl | exact ⟨rfl, rfl⟩
    · cases h
  · intro cs args pre r cs' h hp
    unfold sWithin at h
    split at h
    rotate_left
    · cases h
    rename_i l a b lo hi be ab
    cases h
    unfold sNext sFail
    generalize hg0 : failS = g0
    generalize hg1 : nextS = g1
    generalize hg2 : withinS = g2
    generalize hg3 : okRd = g3
    generalize hg4 : (List.length : List UInt8 → Nat) = g4
    generalize hA : Arith.std = A
    cbv
    subst hA hg0 hg1 hg2 hg3 hg4
    simp only [Ife_iff, Need_iff, Arith.std]
    refine ⟨hp, fun _ => ?_⟩
    unfold withinS
    generalize nextS l a b = r
    obtain ⟨v, p, e⟩ := r
    unfold failS
    dsimp only
    by_cases he : e = 0 <;> by_cases h1 : v < lo <;> by_cases h2 : hi < v <;> by_cases hx : be = 0 <;> by_cases hy : ab = 0 <;> simp [he, h1, h2, hx, hy]

set_option maxRecDepth 100000 in
set_option maxHeartbeats 400000 in
theorem rdNumP : Meth Try.prog 134 196 sRdNum := by
  refine Meth.of (E := tb) (C := [(169, appMeth 196 sWithin)]) [] 0 [] tb_ok (CtsOk.cons (Meth.ct withinP) <| CtsOk.nil _) (by kernel_rfl) Try.func134 rfl rfl rfl (by kernel_rfl) (by kernel_rfl) ?_ ?_
  · intro cs args pre r cs' h
    unfold sRdNum at h
    split at h
    · cases h; first | rfl | exact ⟨rfl, rfl⟩
    · cases h
  · intro cs args pre r cs' h hp
    unfold sRdNum at h
    split at h
    rotate_left
    · cases h
    rename_i l a b lo hi
    cases h
    unfold sWithin
    generalize hg0 : withinS = g0
    generalize hg1 : numS = g1
    generalize hg2 : okRd = g2
    generalize hA : Arith.std = A
    cbv
    subst hA hg0 hg1 hg2
    simp only [Ife_iff, Need_iff, Arith.std]
    refine ⟨hp, fun _ => ?_⟩
    rw [within_num]
    simp

set_option maxRecDepth 100000 in
set_option maxHeartbeats 400000 in
theorem rdCountP : Meth Try.prog 191 196 sCount := by
  refine Meth.of (E := tb) (C := [(169, appMeth 196 sWithin)]) [] 0 [] tb_ok (CtsOk.cons (Meth.ct withinP) <| CtsOk.nil _) (by kernel_rfl) Try.func191 rfl rfl rfl (by kernel_rfl) (by kernel_rfl) ?_ ?_
  · intro cs args pre r cs' h
    unfold sCount at h
    split at h
    · cases h; first | rfl | exact ⟨rfl, rfl⟩
    · cases h
  · intro cs args pre r cs' h hp
    unfold sCount at h
    split at h
    rotate_left
    · cases h
    rename_i l a b hi
    cases h
    unfold sWithin
    generalize hg0 : withinS = g0
    generalize hg1 : countS = g1
    generalize hg2 : okRd = g2
    generalize hA : Arith.std = A
    cbv
    subst hA hg0 hg1 hg2
    simp only [Ife_iff, Need_iff, Arith.std]
    refine ⟨hp, fun _ => ?_⟩
    rw [within_count]
    simp

set_option maxRecDepth 100000 in
set_option maxHeartbeats 400000 in
theorem rdTextP : Meth Try.prog 135 196 sRdText := by
  refine Meth.of (E := tb) (C := [(170, appMeth 196 sNext), (171, appMeth 196 sFail), (85, appPure sClone)]) [] 0 [(9, [(0, true), (1, true), (2, true), (3, true), (4, true), (5, true), (6, true), (7, true), (8, true), (9, true), (10, false), (11, true)])] tb_ok (CtsOk.cons (Meth.ct nextP) <| CtsOk.cons (Meth.ct failP) <| CtsOk.cons (Pure.ct cloneP) <| CtsOk.nil _) (by kernel_rfl) Try.func135 rfl rfl rfl (by kernel_rfl) (by kernel_rfl) ?_ ?_
  · intro cs args pre r cs' h
    unfold sRdText at h
    split at h
    · cases h; first | rfl | exact ⟨rfl, rfl⟩
    · cases h
  · intro cs args pre r cs' h hp
    unfold sRdText at h
    split at h
    rotate_left
    · cases h
    rename_i l a b hi
    cases h
    unfold sNext sFail sClone
    generalize hg0 : failS = g0
    generalize hg1 : nextS = g1
    generalize hg2 : textS = g2
    generalize hg3 : okRd = g3
    generalize hg4 : (List.length : List UInt8 → Nat) = g4
    generalize hA : Arith.std = A
    cbv
    subst hA hg0 hg1 hg2 hg3 hg4
    simp only [Ife_iff, Need_iff, Arith.std]
    refine ⟨hp, fun _ => ?_⟩
    obtain ⟨g1, g2, g3, g4⟩ := next_le l a b hp
    obtain ⟨k1, k2, k3, k4, k5⟩ := hp
    have hS := text_eq l a b hi
    have hz : (nextS l a b).2.2 ≠ 0 → (nextS l a b).1 = 0 := fun h => (text_bad l a b hi h).2
    rw [hS]
    clear hS
    generalize nextS l a b = r at g1 g2 g3 g4 hz
    obtain ⟨v, p, e⟩ := r
    dsimp only at g1 g2 g3 g4 hz ⊢
    have hcut : List.drop p.toNat (List.take (p + v).toNat l) = cut l p v := by
      unfold cut
      rw [List.drop_take]
      congr 1
      omega
    rw [hcut]
    have hcl : (cut l p v).length ≤ 281474976710656 := by
      unfold cut
      rw [List.length_take, List.length_drop]
      omega
    have hcl' : (cut l p v).length.le 281474976710656 := hcl
    have hf1 : fitStd IntKind.i64 ((l.length : Int) - p) := by unfold fitStd; simp [IntKind.signed, IntKind.bits]; omega
    have hf2 : fitStd IntKind.i64 (p + v) := by unfold fitStd; simp [IntKind.signed, IntKind.bits]; omega
    have hpv : p ≤ p + v := by omega
    
    by_cases he : e = 0
    · subst he
      by_cases h1 : hi < v <;> by_cases h2 : (l.length : Int) - p < v
      · simp [h1, h2, failS, hf1]
      · simp [h1, h2, failS, hf1]
      · simp [h1, h2, failS, hf1]
      · have h3 : p + v ≤ (l.length : Int) := by omega
        simp [h1, h2, failS, hf1, hf2, hcl, hcl', g3, g1, hpv, h3]
    · obtain rfl := hz he
      have h2 : ¬ ((l.length : Int) - p < 0) := by omega
      by_cases h1 : hi < 0
      · simp [h1, h2, failS, hf1, he]
      · simp [h1, h2, failS, hf1, he]

set_option maxRecDepth 100000 in
set_option maxHeartbeats 400000 in
theorem rdEndP : Meth Try.prog 115 196 sRdEnd := by
  refine Meth.of (E := tb) (C := []) [] 0 [(1, [(0, true), (1, true), (2, true), (3, true), (4, true), (5, true), (6, true), (7, true), (8, true), (9, true), (10, true), (11, true), (12, true), (13, true), (14, true), (15, true), (16, true)])] tb_ok (CtsOk.nil _) (by kernel_rfl) Try.func115 rfl rfl rfl (by kernel_rfl) (by kernel_rfl) ?_ ?_
  · intro cs args pre r cs' h
    unfold sRdEnd at h
    split at h
    · cases h; first | rfl | exact ⟨rfl, rfl⟩
    · cases h
  · intro cs args pre r cs' h hp
    unfold sRdEnd at h
    split at h
    rotate_left
    · cases h
    rename_i l a b
    cases h
    generalize hg0 : endS = g0
    generalize hg1 : okRd = g1
    generalize hg2 : (List.length : List UInt8 → Nat) = g2
    generalize hA : Arith.std = A
    cbv
    subst hA hg0 hg1 hg2
    simp only [Ife_iff, Need_iff, Arith.std]
    unfold endS
    by_cases h1 : b = 0 <;> by_cases h2 : a < (l.length : Int) <;> simp [h1, h2]

set_option maxRecDepth 100000 in
set_option maxHeartbeats 400000 in
theorem rdErrP : Meth Try.prog 136 196 sRdErr := by
  refine Meth.of (E := tb) (C := []) [] 0 [] tb_ok (CtsOk.nil _) (by kernel_rfl) Try.func136 rfl rfl rfl (by kernel_rfl) (by kernel_rfl) ?_ ?_
  · intro cs args pre r cs' h
    unfold sRdErr at h
    split at h
    · cases h; first | rfl | exact ⟨rfl, rfl⟩
    · cases h
  · intro cs args pre r cs' h hp
    unfold sRdErr at h
    split at h
    rotate_left
    · cases h
    rename_i l a b
    cases h
    generalize hA : Arith.std = A
    cbv

set_option maxRecDepth 100000 in
set_option maxHeartbeats 400000 in
theorem ofP : Makes Try.prog 113 196 sOf := by
  refine Makes.of (E := tb) (C := []) [] 0 [] tb_ok (CtsOk.nil _) (by kernel_rfl) Try.func113 rfl rfl rfl (by kernel_rfl) (by kernel_rfl) ?_ ?_
  · intro args pre cs h
    unfold sOf at h
    split at h
    · cases h; first | rfl | exact ⟨rfl, rfl⟩
    · cases h
  · intro args pre cs h hp
    unfold sOf at h
    split at h
    rotate_left
    · cases h
    rename_i l
    cases h
    generalize hA : Arith.std = A
    cbv

end Vx
end Go.Proofs.Ytcgoaicifjndpaa
end

section
/- Packets read, by the walker. -/
namespace Go.Proofs.Ytcgoaicifjndpaa
open Go.RowKit
set_option linter.unusedVariables false
set_option linter.unusedSimpArgs false
/-! What is read of the bytes l from a state on: a value, the state. -/
def rEnd (l : List UInt8) (s : Int × Int) : (List UInt8 × Int) × Int × Int :=
  let a := rText 12 l s
  let b := rNum 0 999 l a.2
  ((a.1, b.1), b.2)
def rPk (l : List UInt8) (s : Int × Int) : Pkt × Int × Int :=
  let a := rEnd l s
  let b := rEnd l a.2
  let c := rNum 1 1099511627776 l b.2
  let d := rText 200 l c.2
  let e := rNum 0 1099511627776 l d.2
  let f := rNum 0 1099511627776 l e.2
  (⟨a.1.1, a.1.2, b.1.1, b.1.2, c.1, d.1, e.1, f.1⟩, f.2)
def okS (l : List UInt8) (s : Int × Int) : Prop := okRd l s.1 s.2
theorem okS_text {l : List UInt8} {s : Int × Int} {hi : Int} (h : okS l s) : okS l (rText hi l s).2 := ok_text h
theorem okS_num {l : List UInt8} {s : Int × Int} {lo hi : Int} (h : okS l s) : okS l (rNum lo hi l s).2 := ok_num h
theorem okS_end {l : List UInt8} {s : Int × Int} (h : okS l s) : okS l (rEnd l s).2 := okS_num (okS_text h)
theorem okS_pk {l : List UInt8} {s : Int × Int} (h : okS l s) : okS l (rPk l s).2 := okS_num (okS_num (okS_text (okS_num (okS_end (okS_end h)))))
theorem ok_pk' {l : List UInt8} {a b : Int} (h : okRd l a b) : okRd l (rPk l (a, b)).2.1 (rPk l (a, b)).2.2 := okS_pk (s := (a, b)) h
theorem ok_end' {l : List UInt8} {a b : Int} (h : okRd l a b) : okRd l (rEnd l (a, b)).2.1 (rEnd l (a, b)).2.2 := okS_end (s := (a, b)) h
theorem text_len (l : List UInt8) (a b hi : Int) : (textS l a b hi).1.length ≤ l.length := by
  unfold textS
  split
  · simp
  · split
    · simp
    · split
      · simp
      · split
        · simp
        · simp only [cut]
          rw [List.length_take, List.length_drop]
          omega
namespace Vx
def sEnd : Spec1
  | [.str l, .int .i64 a, .int .i64 b], [] => some (okRd l a b, .agg [.str (rEnd l (a, b)).1.1, .int .i64 (rEnd l (a, b)).1.2], [.str l, .int .i64 (rEnd l (a, b)).2.1, .int .i64 (rEnd l (a, b)).2.2])
  | _, _ => none

def sRdPk : Spec1
  | [.str l, .int .i64 a, .int .i64 b], [] => some (okRd l a b, .agg (pkC (rPk l (a, b)).1), [.str l, .int .i64 (rPk l (a, b)).2.1, .int .i64 (rPk l (a, b)).2.2])
  | _, _ => none

set_option maxRecDepth 100000 in
set_option maxHeartbeats 400000 in
theorem endP : Meth Try.prog 190 196 sEnd := by
  refine Meth.of (E := tb) (C := [(135, appMeth 196 sRdText), (134, appMeth 196 sRdNum)]) [1] 0 [] tb_ok (CtsOk.cons (Meth.ct rdTextP) <| CtsOk.cons (Meth.ct rdNumP) <| CtsOk.nil _) (by kernel_rfl) Try.func190 rfl rfl rfl (by kernel_rfl) (by kernel_rfl) ?_ ?_
  · intro cs args pre r cs' h
    unfold sEnd at h
    split at h
    · cases h; first | rfl | exact ⟨rfl, rfl⟩
    · cases h
  · intro cs args pre r cs' h hp
    unfold sEnd at h
    split at h
    rotate_left
    · cases h
    rename_i l a b
    cases h
    unfold sRdText sRdNum
    generalize hg0 : textS = g0
    generalize hg1 : numS = g1
    generalize hg2 : okRd = g2
    generalize hg3 : rEnd = g3
    generalize hA : Arith.std = A
    cbv
    subst hA hg0 hg1 hg2 hg3
    repeat' first | refine Need.mk ?_ fun _ => ?_ | with_reducible refine And.intro ?_ ?_
    all_goals first
      | exact trivial
      | rfl
      | (repeat first | assumption | with_reducible apply ok_text | with_reducible apply ok_num | with_reducible apply ok_pk' | with_reducible apply ok_end'
         done)

set_option maxRecDepth 100000 in
set_option maxHeartbeats 400000 in
theorem rdPkP : Meth Try.prog 159 196 sRdPk := by
  refine Meth.of (E := tb) (C := [(190, appMeth 196 sEnd), (135, appMeth 196 sRdText), (134, appMeth 196 sRdNum)]) [1] 0 [] tb_ok (CtsOk.cons (Meth.ct endP) <| CtsOk.cons (Meth.ct rdTextP) <| CtsOk.cons (Meth.ct rdNumP) <| CtsOk.nil _) (by kernel_rfl) Try.func159 rfl rfl rfl (by kernel_rfl) (by kernel_rfl) ?_ ?_
  · intro cs args pre r cs' h
    unfold sRdPk at h
    split at h
    · cases h; first | rfl | exact ⟨rfl, rfl⟩
    · cases h
  · intro cs args pre r cs' h hp
    unfold sRdPk at h
    split at h
    rotate_left
    · cases h
    rename_i l a b
    cases h
    unfold sEnd sRdText sRdNum
    generalize hg0 : textS = g0
    generalize hg1 : numS = g1
    generalize hg2 : okRd = g2
    generalize hg3 : rEnd = g3
    generalize hg4 : rPk = g4
    generalize hA : Arith.std = A
    cbv
    subst hA hg0 hg1 hg2 hg3 hg4
    repeat' first | refine Need.mk ?_ fun _ => ?_ | with_reducible refine And.intro ?_ ?_
    all_goals first
      | exact trivial
      | rfl
      | (repeat first | assumption | with_reducible apply ok_text | with_reducible apply ok_num | with_reducible apply ok_pk' | with_reducible apply ok_end'
         done)



end Vx
end Go.Proofs.Ytcgoaicifjndpaa
end

section
/- What packets are written as is read back, plainly. -/
namespace Go.Proofs.Ytcgoaicifjndpaa
open Go.RowKit
set_option linter.unusedVariables false
set_option linter.unusedSimpArgs false
theorem codecEnd : Codec rEnd (fun z : List UInt8 × Int => textB z.1 ++ Leb.put z.2) (fun z => (z.1.length : Int) ≤ 12 ∧ (0 ≤ z.2 ∧ z.2 ≤ 999)) :=
  (Codec.text 12 (by decide)).bind fun _ => Codec.num 0 999 (by decide) (by decide)

def pkB (p : Pkt) : List UInt8 := (textB p.sp ++ Leb.put p.sc) ++ ((textB p.dp ++ Leb.put p.dc) ++ (Leb.put p.seq ++ (textB p.data ++ (Leb.put p.th ++ Leb.put p.ta))))
def pkV (p : Pkt) : Prop := ((p.sp.length : Int) ≤ 12 ∧ (0 ≤ p.sc ∧ p.sc ≤ 999)) ∧ (((p.dp.length : Int) ≤ 12 ∧ (0 ≤ p.dc ∧ p.dc ≤ 999)) ∧ ((1 ≤ p.seq ∧ p.seq ≤ 1099511627776) ∧ ((p.data.length : Int) ≤ 200 ∧ ((0 ≤ p.th ∧ p.th ≤ 1099511627776) ∧ (0 ≤ p.ta ∧ p.ta ≤ 1099511627776)))))
theorem codecPk : Codec rPk pkB pkV :=
  (codecEnd.bind fun _ => codecEnd.bind fun _ => (Codec.num 1 1099511627776 (by decide) (by decide)).bind fun _ => (Codec.text 200 (by decide)).bind fun _ => (Codec.num 0 1099511627776 (by decide) (by decide)).bind fun _ => Codec.num 0 1099511627776 (by decide) (by decide)).map
    (fun z => (⟨z.1.1, z.1.2, z.2.1.1, z.2.1.2, z.2.2.1, z.2.2.2.1, z.2.2.2.2.1, z.2.2.2.2.2⟩ : Pkt)) (fun p => ((p.sp, p.sc), (p.dp, p.dc), p.seq, p.data, p.th, p.ta)) (fun _ => rfl) (fun _ => rfl)

theorem mayPk_V {p : Pkt} (h : mayPkt p = true) : pkV p := by
  unfold mayPkt at h
  simp only [Bool.and_eq_true, decide_eq_true_eq, between] at h
  obtain ⟨⟨⟨⟨⟨h1, h2⟩, h3⟩, h4⟩, h5⟩, h6⟩ := h
  obtain ⟨a1, a2, a3⟩ := mayEnd_facts h1
  obtain ⟨b1, b2, b3⟩ := mayEnd_facts h2
  refine ⟨⟨by omega, by omega, by omega⟩, ⟨by omega, by omega, by omega⟩, h3, by omega, h5, h6⟩
theorem put_ne {v : Int} (h0 : 0 ≤ v) (h1 : v ≤ 72057594037927935) : Leb.put v ≠ [] := by
  have := (Leb.put_len v h0 h1).1
  intro e
  rw [e] at this
  simp at this
theorem wN_ok {v : Int} {l : List UInt8} (h0 : 0 ≤ v) (h1 : v ≤ 72057594037927935) : wN v (l, false) = (l ++ Leb.put v, false) := by
  simp [wN, numW, numBad, putW, put_ne h0 h1]
theorem wT_ok {m : List UInt8} {l : List UInt8} (h : (m.length : Int) ≤ 72057594037927935) : wT m (l, false) = (l ++ textB m, false) := by
  simp [wT, textW, textB, numW, numBad, putW, put_ne (show 0 ≤ (m.length : Int) by omega) h]
theorem wPk_ok {p : Pkt} {l : List UInt8} (h : pkV p) : wPk p (l, false) = (l ++ pkB p, false) := by
  obtain ⟨⟨h1, h2, h3⟩, ⟨h4, h5, h6⟩, ⟨h7, h8⟩, h9, ⟨h10, h11⟩, h12, h13⟩ := h
  unfold wPk
  rw [wT_ok (by omega), wN_ok (by omega) (by omega), wT_ok (by omega), wN_ok (by omega) (by omega), wN_ok (by omega) (by omega), wT_ok (by omega), wN_ok (by omega) (by omega), wN_ok (by omega) (by omega)]
  simp [pkB]

end Go.Proofs.Ytcgoaicifjndpaa
end
