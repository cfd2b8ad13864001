/- Readers, by the walker. -/
import Derived.Test.YthomoliklfmnkaaDoorM26
import Derived.Test.YthomoliklfmnkaaDoorM8
import Derived.Test.YthomoliklfmnkaaDoorM33
import Derived.Test.YthomoliklfmnkaaDoorM29
import Derived.Test.YthomoliklfmnkaaDoorM14
import Derived.Test.YthomoliklfmnkaaDoorLebWalks
import Derived.Lib.BufferWrite
import Derived.Lib.UnsafeStr
import Derived.Test.YthomoliklfmnkaaDoorVPk
section
namespace Go.Proofs.YthomoliklfmnkaaDoor
open Go.RowKit
set_option linter.unusedVariables false
set_option linter.unusedSimpArgs false

set_option maxRecDepth 100000 in
set_option maxHeartbeats 1000000 in
theorem cloneLite (s : ByteArray) (w : World) (hlim : s.size ≤ 281474976710656) :
    Calls Tryd.prog 133 #[.string s] w fun e w' => e = .returned (.string s) ∧ Below w.heap.size w w' := by
  by_cases h0 : s.size = 0
  · have hs : s = ⟨#[]⟩ := by
      apply ByteArray.ext
      exact Array.eq_empty_of_size_eq_zero h0
    subst hs
    go_enter Tryd.func133, Tryd.ntmps133
    go_wp2
    go_ret
    exact ⟨rfl, Below.refl _ _⟩
  · obtain ⟨i0, hi, hz0, hz1, hz2⟩ := info_parts info_u8
    have hinfo : (Tryd.prog.info? 5).map (·.size) = some 1 := by rw [hi]; simp [hz1]
    have hco : Tryd.prog.cellsOf 5 = 1 := by simp [Program.cellsOf, hi, hz1]
    obtain ⟨M, hM⟩ : ∃ M, M = madeCells (Value.int .u8 0).cells (((s.size : Nat) : Int).toNat * i0.size) := ⟨_, rfl⟩
    have hMs : M.size = s.size := by rw [hM, size_madeCells, hz1]; simp
    have hmk : ∀ W : World, (Instr.makeSlice 158 (.int .i64 (s.size : Int)) (.int .i64 (s.size : Int))).run Tryd.prog W = .ok (.slice (some ⟨W.heap.size, 0, none⟩) s.size s.size) (W.alloc (.cells M 5)) := fun W => by
      have h := run_make (P := Tryd.prog) W 158 5 i0 (.int .u8 0) Tryd.underlying158 hi hz0 .i64 .i64 (s.size : Int) (s.size : Int) (by omega) (by omega) (by rw [hz2]; omega) (by omega)
      rw [← hM] at h
      simpa using h
    clear hM
    have hcp := Lib.run_copy_row_string (P := Tryd.prog) (w.alloc (.cells M 5)) 158 9 3 5 w.heap.size 0 s.size s.size s M 5 Tryd.underlying158 hinfo (heap_alloc_new w _) (Nat.le_refl _) (by omega)
    obtain ⟨Y, hY⟩ : ∃ Y, Y = (M.toList.take 0 ++ Lib.byteCells s.data.toList ++ M.toList.drop (0 + s.size)).toArray := ⟨_, rfl⟩
    rw [← hY] at hcp
    have hYl : Y.toList = Lib.byteCells s.data.toList := by
      rw [hY, List.toList_toArray, List.take_zero, List.nil_append, List.drop_of_length_le (by rw [Array.length_toList]; omega), List.append_nil]
    have hYs : Y.size = s.size := by rw [← Array.length_toList, hYl, Lib.byteCells_length, ← Lib.size_eq]
    have hgY : ((w.alloc (.cells M 5)).setRow w.heap.size Y).heap[w.heap.size]? = some (.cells Y 5 (0, 0)) := setRow_heap _ _ M _ 5 (0, 0) (heap_alloc_new w _)
    have hne : s.data.toList ≠ [] := fun e => h0 (by rw [Lib.size_eq, e]; rfl)
    have hUS := Lib.run_unsafeString_row (P := Tryd.prog) ((w.alloc (.cells M 5)).setRow w.heap.size Y) 193 3 9 5 Tryd.underlying193 hco w.heap.size Y.size (by unfold World.shape?; rw [hgY]) s.data.toList hne (by rw [← Lib.size_eq]; omega) (by rw [← Lib.size_eq]; omega)
      (fun j x hx => Lib.cells_of_row hgY Y.size j _ (by rw [List.take_of_length_le (by rw [Array.length_toList]; exact Nat.le_refl _), hYl]; simp [Lib.byteCells, hx]))
    rw [← Lib.size_eq] at hUS
    clear hY
    go_enter Tryd.func133, Tryd.ntmps133
    go_wp2
    go_ret
    have hb1 : Below w.heap.size w (w.alloc (.cells M 5)) := (Below.refl _ w).alloc (Nat.le_refl _) _
    have hb2 : Below w.heap.size (w.alloc (.cells M 5)) ((w.alloc (.cells M 5)).setRow w.heap.size Y) := ⟨rfl, rfl, rfl, by simp, fun k hk => setRow_other _ _ _ _ (by omega)⟩
    exact ⟨rfl, Lib.below_freeze (hb1.trans hb2) (p := ⟨w.heap.size, 0, none⟩) (Nat.le_refl _) _⟩

set_option maxRecDepth 100000 in
set_option maxHeartbeats 1000000 in
theorem cloneStr (s : ByteArray) (w : World) (hlim : s.size ≤ 281474976710656) :
    Calls Tryd.prog 98 #[.string s] w fun e w' => e = .returned (.string s) ∧ Below w.heap.size w w' := by
  go_enter Tryd.func98, Tryd.ntmps98
  go_wp2_with (go_at_call 133; refine (cloneLite s _ hlim).mono ?_; rintro e w2 ⟨rfl, hx⟩)
  go_ret
  exact ⟨rfl, hx⟩

theorem lebNextB (l : List UInt8) (v : Int) (W : World) (hl : l.length ≤ 140737488351232) (hv : isI64 v) :
    Calls Tryd.prog 170 #[.string ⟨l.toArray⟩, .int .i64 v] W fun e w' =>
      e = .returned (.tuple #[.int .i64 (Leb.next l v).1, .int .i64 (Leb.next l v).2.1, .int .i64 (Leb.next l v).2.2]) ∧ Below W.heap.size W w' := by
  refine (lebNext l v W hl hv).mono ?_
  rintro e w' ⟨he, rfl⟩
  exact ⟨he, Below.refl _ _⟩

namespace Vx
def sClone : List SV → Option (Prop × SV)
  | [.c (.str l)] => some (l.length ≤ 281474976710656, .c (.str l))
  | _ => none

def sLebNext : List SV → Option (Prop × SV)
  | [.c (.str l), .c (.int .i64 v)] => some (l.length ≤ 140737488351232 ∧ isI64 v, .tup [(some (.int .i64 (Leb.next l v).1), []), (some (.int .i64 (Leb.next l v).2.1), []), (some (.int .i64 (Leb.next l v).2.2), [])])
  | _ => none

theorem cloneP : Pure Tryd.prog 98 sClone := by
  refine ⟨by kernel_rfl, fun args pre r h hp us hs W => ?_⟩
  unfold sClone at h
  split at h
  rotate_left
  · cases h
  rename_i l
  cases h
  obtain ⟨u0, _, rfl, a0, b0⟩ := hs
  obtain rfl : .string ⟨(l).toArray⟩ = u0 := Option.some.inj a0
  cases b0
  refine Calls.mono (cloneStr _ W (by exact hp)) fun e W' he => ?_
  obtain ⟨rfl, hb⟩ := he
  exact ⟨_, rfl, rfl, hb⟩

theorem lebNextP : Pure Tryd.prog 170 sLebNext := by
  refine ⟨by kernel_rfl, fun args pre r h hp us hs W => ?_⟩
  unfold sLebNext at h
  split at h
  rotate_left
  · cases h
  rename_i l v
  cases h
  obtain ⟨u0, _, rfl, a0, b0⟩ := hs
  obtain rfl : .string ⟨(l).toArray⟩ = u0 := Option.some.inj a0
  obtain ⟨u1, _, rfl, a1, b1⟩ := b0
  obtain rfl : .int .i64 v = u1 := Option.some.inj a1
  cases b1
  refine Calls.mono (lebNextB l v W hp.1 hp.2) fun e W' he => ?_
  obtain ⟨rfl, hb⟩ := he
  exact ⟨_, rfl, ⟨[.int .i64 (Leb.next l v).1, .int .i64 (Leb.next l v).2.1, .int .i64 (Leb.next l v).2.2], ⟨_, _, rfl, rfl, _, _, rfl, rfl, _, _, rfl, rfl, rfl⟩, rfl⟩, hb⟩

def sFail : Spec1
  | [.str l, .int .i64 a, .int .i64 b], [.c (.int .i64 e)] => some (True, .tup [], [.str l, .int .i64 a, .int .i64 (failS b e)])
  | _, _ => none

def sNext : Spec1
  | [.str l, .int .i64 a, .int .i64 b], [] => some (okRd l a b, .tup [(some (.int .i64 (nextS l a b).1), []), (some (.int .i64 (nextS l a b).2.1), [])], [.str l, .int .i64 a, .int .i64 (nextS l a b).2.2])
  | _, _ => none

def sWithin : Spec1
  | [.str l, .int .i64 a, .int .i64 b], [.c (.int .i64 lo), .c (.int .i64 hi), .c (.int .i64 be), .c (.int .i64 ab)] => some (okRd l a b, .c (.int .i64 (withinS l a b lo hi be ab).1), [.str l, .int .i64 (withinS l a b lo hi be ab).2.1, .int .i64 (withinS l a b lo hi be ab).2.2])
  | _, _ => none

def sRdNum : Spec1
  | [.str l, .int .i64 a, .int .i64 b], [.c (.int .i64 lo), .c (.int .i64 hi)] => some (okRd l a b, .c (.int .i64 (numS l a b lo hi).1), [.str l, .int .i64 (numS l a b lo hi).2.1, .int .i64 (numS l a b lo hi).2.2])
  | _, _ => none

def sCount : Spec1
  | [.str l, .int .i64 a, .int .i64 b], [.c (.int .i64 hi)] => some (okRd l a b, .c (.int .i64 (countS l a b hi).1), [.str l, .int .i64 (countS l a b hi).2.1, .int .i64 (countS l a b hi).2.2])
  | _, _ => none

def sRdText : Spec1
  | [.str l, .int .i64 a, .int .i64 b], [.c (.int .i64 hi)] => some (okRd l a b, .c (.str (textS l a b hi).1), [.str l, .int .i64 (textS l a b hi).2.1, .int .i64 (textS l a b hi).2.2])
  | _, _ => none

def sRdErr : Spec1
  | [.str l, .int .i64 a, .int .i64 b], [] => some (True, .c (.int .i64 b), [.str l, .int .i64 a, .int .i64 b])
  | _, _ => none

def sRdAt : Spec1
  | [.str l, .int .i64 a, .int .i64 b], [] => some (True, .c (.int .i64 a), [.str l, .int .i64 a, .int .i64 b])
  | _, _ => none


def sOf : List SV → Option (Prop × List CV)
  | [.c (.str l)] => some (True, [.str l, .int .i64 0, .int .i64 0])
  | _ => none

set_option maxRecDepth 100000 in
set_option maxHeartbeats 400000 in
theorem failP : Meth Tryd.prog 158 155 sFail := by
  refine Meth.of (E := tb) (C := []) [] 0 [] tb_ok (CtsOk.nil _) (by kernel_rfl) Tryd.func158 rfl rfl rfl (by kernel_rfl) (by kernel_rfl) ?_ ?_
  · intro cs args pre r cs' h
    unfold sFail at h
    split at h
    · cases h; first | rfl | exact ⟨rfl, rfl⟩
    · cases h
  · intro cs args pre r cs' h hp
    unfold sFail at h
    split at h
    rotate_left
    · cases h
    rename_i l a b e
    cases h
    generalize hg0 : failS = g0
    generalize hA : Arith.std = A
    cbv
    subst hA hg0
    simp only [Ife_iff, Need_iff, Arith.std]
    by_cases hb : b = 0 <;> simp_all [failS, cvSame]

set_option maxRecDepth 100000 in
set_option maxHeartbeats 400000 in
theorem nextP : Meth Tryd.prog 157 155 sNext := by
  refine Meth.of (E := tb) (C := [(170, appPure sLebNext), (158, appMeth 155 sFail)]) [] 0 [(2, [(0, true), (1, true), (2, true), (3, true), (4, true), (5, true)]), (3, [(0, true), (1, true), (2, true), (3, true), (4, true), (5, true), (6, true), (7, true), (8, false), (9, true), (10, true), (11, true), (12, true), (13, true), (14, true), (15, true)])] tb_ok (CtsOk.cons (Pure.ct lebNextP) <| CtsOk.cons (Meth.ct failP) <| CtsOk.nil _) (by kernel_rfl) Tryd.func157 rfl rfl rfl (by kernel_rfl) (by kernel_rfl) ?_ ?_
  · intro cs args pre r cs' h
    unfold sNext at h
    split at h
    · cases h; first | rfl | exact ⟨rfl, rfl⟩
    · cases h
  · intro cs args pre r cs' h hp
    unfold sNext at h
    split at h
    rotate_left
    · cases h
    rename_i l a b
    cases h
    unfold sLebNext sFail
    generalize hg0 : failS = g0
    generalize hg1 : nextS = g1
    generalize hg2 : Leb.next = g2
    generalize hg3 : isI64 = g3
    generalize hg4 : okRd = g4
    generalize hg5 : (List.length : List UInt8 → Nat) = g5
    generalize hA : Arith.std = A
    cbv
    subst hA hg0 hg1 hg2 hg3 hg4 hg5
    simp only [Ife_iff, Need_iff, Arith.std]
    have h64 : isI64 a := by obtain ⟨h1, h2, h3, h4, h5⟩ := hp; unfold isI64; omega
    have hlen : l.length ≤ 140737488351232 := hp.2.2.1
    by_cases hb : b = 0
    · subst hb
      refine ⟨fun h => by simp at h, fun _ => ⟨⟨hlen, h64⟩, fun _ => ⟨trivial, fun _ => ?_⟩⟩⟩
      simp [nextS, failS]
    · refine ⟨fun h => ?_, fun h => by simp [hb] at h⟩
      simp [nextS, hb]

set_option maxRecDepth 100000 in
set_option maxHeartbeats 400000 in
theorem withinP : Meth Tryd.prog 140 155 sWithin := by
  refine Meth.of (E := tb) (C := [(157, appMeth 155 sNext), (158, appMeth 155 sFail)]) [] 0 [] tb_ok (CtsOk.cons (Meth.ct nextP) <| CtsOk.cons (Meth.ct failP) <| CtsOk.nil _) (by kernel_rfl) Tryd.func140 rfl rfl rfl (by kernel_rfl) (by kernel_rfl) ?_ ?_
  · intro cs args pre r cs' h
    unfold sWithin at h
    split at h
    · cases h; first | rfl | exact ⟨rfl, rfl⟩
    · cases h
  · intro cs args pre r cs' h hp
    unfold sWithin at h
    split at h
    rotate_left
    · cases h
    rename_i l a b lo hi be ab
    cases h
    unfold sNext sFail
    generalize hg0 : failS = g0
    generalize hg1 : nextS = g1
    generalize hg2 : withinS = g2
    generalize hg3 : okRd = g3
    generalize hg4 : (List.length : List UInt8 → Nat) = g4
    generalize hA : Arith.std = A
    cbv
    subst hA hg0 hg1 hg2 hg3 hg4
    simp only [Ife_iff, Need_iff, Arith.std]
    refine ⟨hp, fun _ => ?_⟩
    unfold withinS
    generalize nextS l a b = r
    obtain ⟨v, p, e⟩ := r
    unfold failS
    dsimp only
    by_cases he : e = 0 <;> by_cases h1 : v < lo <;> by_cases h2 : hi < v <;> by_cases hx : be = 0 <;> by_cases hy : ab = 0 <;> simp [he, h1, h2, hx, hy]

set_option maxRecDepth 100000 in
set_option maxHeartbeats 400000 in
theorem rdNumP : Meth Tryd.prog 106 155 sRdNum := by
  refine Meth.of (E := tb) (C := [(140, appMeth 155 sWithin)]) [] 0 [] tb_ok (CtsOk.cons (Meth.ct withinP) <| CtsOk.nil _) (by kernel_rfl) Tryd.func106 rfl rfl rfl (by kernel_rfl) (by kernel_rfl) ?_ ?_
  · intro cs args pre r cs' h
    unfold sRdNum at h
    split at h
    · cases h; first | rfl | exact ⟨rfl, rfl⟩
    · cases h
  · intro cs args pre r cs' h hp
    unfold sRdNum at h
    split at h
    rotate_left
    · cases h
    rename_i l a b lo hi
    cases h
    unfold sWithin
    generalize hg0 : withinS = g0
    generalize hg1 : numS = g1
    generalize hg2 : okRd = g2
    generalize hA : Arith.std = A
    cbv
    subst hA hg0 hg1 hg2
    simp only [Ife_iff, Need_iff, Arith.std]
    refine ⟨hp, fun _ => ?_⟩
    rw [within_num]
    simp

set_option maxRecDepth 100000 in
set_option maxHeartbeats 400000 in
theorem rdCountP : Meth Tryd.prog 107 155 sCount := by
  refine Meth.of (E := tb) (C := [(140, appMeth 155 sWithin)]) [] 0 [] tb_ok (CtsOk.cons (Meth.ct withinP) <| CtsOk.nil _) (by kernel_rfl) Tryd.func107 rfl rfl rfl (by kernel_rfl) (by kernel_rfl) ?_ ?_
  · intro cs args pre r cs' h
    unfold sCount at h
    split at h
    · cases h; first | rfl | exact ⟨rfl, rfl⟩
    · cases h
  · intro cs args pre r cs' h hp
    unfold sCount at h
    split at h
    rotate_left
    · cases h
    rename_i l a b hi
    cases h
    unfold sWithin
    generalize hg0 : withinS = g0
    generalize hg1 : countS = g1
    generalize hg2 : okRd = g2
    generalize hA : Arith.std = A
    cbv
    subst hA hg0 hg1 hg2
    simp only [Ife_iff, Need_iff, Arith.std]
    refine ⟨hp, fun _ => ?_⟩
    rw [within_count]
    simp

set_option maxRecDepth 100000 in
set_option maxHeartbeats 400000 in
theorem rdTextP : Meth Tryd.prog 141 155 sRdText := by
  refine Meth.of (E := tb) (C := [(157, appMeth 155 sNext), (158, appMeth 155 sFail), (98, appPure sClone)]) [] 0 [(9, [(0, true), (1, true), (2, true), (3, true), (4, true), (5, true), (6, true), (7, true), (8, true), (9, true), (10, false), (11, true)])] tb_ok (CtsOk.cons (Meth.ct nextP) <| CtsOk.cons (Meth.ct failP) <| CtsOk.cons (Pure.ct cloneP) <| CtsOk.nil _) (by kernel_rfl) Tryd.func141 rfl rfl rfl (by kernel_rfl) (by kernel_rfl) ?_ ?_
  · intro cs args pre r cs' h
    unfold sRdText at h
    split at h
    · cases h; first | rfl | exact ⟨rfl, rfl⟩
    · cases h
  · intro cs args pre r cs' h hp
    unfold sRdText at h
    split at h
    rotate_left
    · cases h
    rename_i l a b hi
    cases h
    unfold sNext sFail sClone
    generalize hg0 : failS = g0
    generalize hg1 : nextS = g1
    generalize hg2 : textS = g2
    generalize hg3 : okRd = g3
    generalize hg4 : (List.length : List UInt8 → Nat) = g4
    generalize hA : Arith.std = A
    cbv
    subst hA hg0 hg1 hg2 hg3 hg4
    simp only [Ife_iff, Need_iff, Arith.std]
    refine ⟨hp, fun _ => ?_⟩
    obtain ⟨g1, g2, g3, g4⟩ := next_le l a b hp
    obtain ⟨k1, k2, k3, k4, k5⟩ := hp
    have hS := text_eq l a b hi
    have hz : (nextS l a b).2.2 ≠ 0 → (nextS l a b).1 = 0 := fun h => (text_bad l a b hi h).2
    rw [hS]
    clear hS
    generalize nextS l a b = r at g1 g2 g3 g4 hz
    obtain ⟨v, p, e⟩ := r
    dsimp only at g1 g2 g3 g4 hz ⊢
    have hcut : List.drop p.toNat (List.take (p + v).toNat l) = cut l p v := by
      unfold cut
      rw [List.drop_take]
      congr 1
      omega
    rw [hcut]
    have hcl : (cut l p v).length ≤ 281474976710656 := by
      unfold cut
      rw [List.length_take, List.length_drop]
      omega
    have hcl' : (cut l p v).length.le 281474976710656 := hcl
    have hf1 : fitStd IntKind.i64 ((l.length : Int) - p) := by unfold fitStd; simp [IntKind.signed, IntKind.bits]; omega
    have hf2 : fitStd IntKind.i64 (p + v) := by unfold fitStd; simp [IntKind.signed, IntKind.bits]; omega
    have hpv : p ≤ p + v := by omega
    
    by_cases he : e = 0
    · subst he
      by_cases h1 : hi < v <;> by_cases h2 : (l.length : Int) - p < v
      · simp [h1, h2, failS, hf1]
      · simp [h1, h2, failS, hf1]
      · simp [h1, h2, failS, hf1]
      · have h3 : p + v ≤ (l.length : Int) := by omega
        simp [h1, h2, failS, hf1, hf2, hcl, hcl', g3, g1, hpv, h3]
    · obtain rfl := hz he
      have h2 : ¬ ((l.length : Int) - p < 0) := by omega
      by_cases h1 : hi < 0
      · simp [h1, h2, failS, hf1, he]
      · simp [h1, h2, failS, hf1, he]


set_option maxRecDepth 100000 in
set_option maxHeartbeats 400000 in
theorem rdErrP : Meth Tryd.prog 68 155 sRdErr := by
  refine Meth.of (E := tb) (C := []) [] 0 [] tb_ok (CtsOk.nil _) (by kernel_rfl) Tryd.func68 rfl rfl rfl (by kernel_rfl) (by kernel_rfl) ?_ ?_
  · intro cs args pre r cs' h
    unfold sRdErr at h
    split at h
    · cases h; first | rfl | exact ⟨rfl, rfl⟩
    · cases h
  · intro cs args pre r cs' h hp
    unfold sRdErr at h
    split at h
    rotate_left
    · cases h
    rename_i l a b
    cases h
    generalize hA : Arith.std = A
    cbv

set_option maxRecDepth 100000 in
set_option maxHeartbeats 400000 in
theorem ofP : Makes Tryd.prog 65 155 sOf := by
  refine Makes.of (E := tb) (C := []) [] 0 [] tb_ok (CtsOk.nil _) (by kernel_rfl) Tryd.func65 rfl rfl rfl (by kernel_rfl) (by kernel_rfl) ?_ ?_
  · intro args pre cs h
    unfold sOf at h
    split at h
    · cases h; first | rfl | exact ⟨rfl, rfl⟩
    · cases h
  · intro args pre cs h hp
    unfold sOf at h
    split at h
    rotate_left
    · cases h
    rename_i l
    cases h
    generalize hA : Arith.std = A
    cbv

end Vx
end Go.Proofs.YthomoliklfmnkaaDoor
end

section
/- Packets read, by the walker. -/
namespace Go.Proofs.YthomoliklfmnkaaDoor
open Go.RowKit
set_option linter.unusedVariables false
set_option linter.unusedSimpArgs false
/-! What is read of the bytes l from a state on: a value, the state. -/
def okS (l : List UInt8) (s : Int × Int) : Prop := okRd l s.1 s.2
theorem okS_text {l : List UInt8} {s : Int × Int} {hi : Int} (h : okS l s) : okS l (rText hi l s).2 := ok_text h
theorem okS_num {l : List UInt8} {s : Int × Int} {lo hi : Int} (h : okS l s) : okS l (rNum lo hi l s).2 := ok_num h
namespace Vx






end Vx
end Go.Proofs.YthomoliklfmnkaaDoor
end

section
/- What packets are written as is read back, plainly. -/
namespace Go.Proofs.YthomoliklfmnkaaDoor
open Go.RowKit
set_option linter.unusedVariables false
set_option linter.unusedSimpArgs false


theorem put_ne {v : Int} (h0 : 0 ≤ v) (h1 : v ≤ 72057594037927935) : Leb.put v ≠ [] := by
  have := (Leb.put_len v h0 h1).1
  intro e
  rw [e] at this
  simp at this
theorem wN_ok {v : Int} {l : List UInt8} (h0 : 0 ≤ v) (h1 : v ≤ 72057594037927935) : wN v (l, false) = (l ++ Leb.put v, false) := by
  simp [wN, numW, numBad, putW, put_ne h0 h1]
theorem wT_ok {m : List UInt8} {l : List UInt8} (h : (m.length : Int) ≤ 72057594037927935) : wT m (l, false) = (l ++ textB m, false) := by
  simp [wT, textW, textB, numW, numBad, putW, put_ne (show 0 ≤ (m.length : Int) by omega) h]

end Go.Proofs.YthomoliklfmnkaaDoor
end

section
/- The document's own readers, by the walker. -/
namespace Go.Proofs.YthomoliklfmnkaaDoor
open Go.RowKit
set_option linter.unusedVariables false
set_option linter.unusedSimpArgs false

theorem refNextB (l : List UInt8) (v : Int) (W : World) (hl : l.length ≤ 140737488351232) (hv : isI64 v) :
    Calls Tryd.prog 143 #[.string ⟨l.toArray⟩, .int .i64 v] W fun e w' =>
      e = .returned (.tuple #[.int .i64 (Leb.next l v).1, .int .i64 (Leb.next l v).2.1, .int .i64 (Leb.next l v).2.2]) ∧ Below W.heap.size W w' := by
  refine (refNext l v W hl hv).mono ?_
  rintro e w' ⟨he, rfl⟩
  exact ⟨he, Below.refl _ _⟩
theorem textB_len (m : List UInt8) : (textB m).length ≤ m.length + 8 := by
  have := Leb.put_len_le m.length
  unfold textB
  rw [List.length_append]
  omega

namespace Vx
theorem refNextP : Pure Tryd.prog 143 sLebNext := by
  refine ⟨by kernel_rfl, fun args pre r h hp us hs W => ?_⟩
  unfold sLebNext at h
  split at h
  rotate_left
  · cases h
  rename_i l v
  cases h
  obtain ⟨u0, _, rfl, a0, b0⟩ := hs
  obtain rfl : .string ⟨(l).toArray⟩ = u0 := Option.some.inj a0
  obtain ⟨u1, _, rfl, a1, b1⟩ := b0
  obtain rfl : .int .i64 v = u1 := Option.some.inj a1
  cases b1
  refine Calls.mono (refNextB l v W hp.1 hp.2) fun e W' he => ?_
  obtain ⟨rfl, hb⟩ := he
  exact ⟨_, rfl, ⟨[.int .i64 (Leb.next l v).1, .int .i64 (Leb.next l v).2.1, .int .i64 (Leb.next l v).2.2], ⟨_, _, rfl, rfl, _, _, rfl, rfl, _, _, rfl, rfl, rfl⟩, rfl⟩, hb⟩

theorem refPutP : Pure Tryd.prog 116 sLebPut := by
  refine ⟨by kernel_rfl, fun args pre r h hp us hs W => ?_⟩
  unfold sLebPut at h
  split at h
  rotate_left
  · cases h
  rename_i v
  cases h
  obtain ⟨u0, _, rfl, a0, b0⟩ := hs
  obtain rfl : .int .i64 v = u0 := Option.some.inj a0
  cases b0
  refine Calls.mono (refPut v W hp) fun e W' he => ?_
  obtain ⟨rfl, hb⟩ := he
  exact ⟨_, rfl, rfl, hb⟩

def sPutText : List SV → Option (Prop × SV)
  | [.c (.str m)] => some (m.length ≤ 9223372036854770000, .c (.str (textB m)))
  | _ => none

set_option maxRecDepth 100000 in
set_option maxHeartbeats 400000 in
theorem refPutTextP : Pure Tryd.prog 117 sPutText := by
  refine Pure.of (E := tb) (C := [(116, appPure sLebPut)]) [] 0 [] tb_ok (CtsOk.cons (Pure.ct refPutP) <| CtsOk.nil _) (by kernel_rfl) Tryd.func117 rfl rfl rfl (by kernel_rfl) (by kernel_rfl) ?_ ?_
  · intro args pre r h
    unfold sPutText at h
    split at h
    · cases h; first | rfl | exact ⟨rfl, rfl⟩
    · cases h
  · intro args pre r h hp
    unfold sPutText at h
    split at h
    rotate_left
    · cases h
    rename_i m
    cases h
    unfold sLebPut
    generalize hg0 : Leb.put = g0
    generalize hg1 : textB = g1
    generalize hg2 : (List.length : List UInt8 → Nat) = g2
    generalize hA : Arith.std = A
    cbv
    subst hA hg0 hg1 hg2
    refine Need.mk (show isI64 (m.length : Int) by unfold isI64; omega) fun _ => ?_
    have h8 := Leb.put_len_le m.length
    refine Need.mk (show ((Leb.put m.length).length : Int) + m.length ≤ 9223372036854775807 by omega) fun _ => ?_
    rfl

set_option maxRecDepth 100000 in
set_option maxHeartbeats 400000 in
theorem refNumP : Meth Tryd.prog 109 97 sRdNum := by
  refine Meth.of (E := tb) (C := [(143, appPure sLebNext)]) [] 0 [(3, [(0, true), (1, true), (2, true), (3, true), (4, true), (5, true), (6, true), (7, true), (8, false), (9, true), (10, true), (11, true), (12, true), (13, true), (14, true), (15, true)])] tb_ok (CtsOk.cons (Pure.ct refNextP) <| CtsOk.nil _) (by kernel_rfl) Tryd.func109 rfl rfl rfl (by kernel_rfl) (by kernel_rfl) ?_ ?_
  · intro cs args pre r cs' h
    unfold sRdNum at h
    split at h
    · cases h; first | rfl | exact ⟨rfl, rfl⟩
    · cases h
  · intro cs args pre r cs' h hp
    unfold sRdNum at h
    split at h
    rotate_left
    · cases h
    rename_i l a b lo hi
    cases h
    unfold sLebNext
    generalize hg0 : numS = g0
    generalize hg1 : textS = g1
    generalize hg2 : countS = g2
    generalize hg3 : endS = g3
    generalize hg4 : Leb.next = g4
    generalize hg5 : isI64 = g5
    generalize hg6 : okRd = g6
    generalize hg7 : (List.length : List UInt8 → Nat) = g7
    generalize hA : Arith.std = A
    cbv
    subst hA hg0 hg1 hg2 hg3 hg4 hg5 hg6 hg7
    have h64 : isI64 a := by obtain ⟨h1, h2, h3, h4, h5⟩ := hp; unfold isI64; omega
    have hlen : l.length ≤ 140737488351232 := hp.2.2.1
    obtain ⟨g1, g2, g3, g4, g5⟩ := hp
    have hr := Leb.next_range l a
    refine Ife.mk (fun h => ?_) (fun h => ?_)
    · have h : b ≠ 0 := by simpa [Arith.std] using h
      simp [numS, h]
    have hb : b = 0 := by simpa [Arith.std] using h
    subst hb
    refine Need.mk ⟨hlen, h64⟩ fun _ => ?_
    unfold numS
    generalize Leb.next l a = r at hr ⊢
    obtain ⟨v, p, e⟩ := r
    dsimp only at hr ⊢
    simp only [Ife_iff, Need_iff, Arith.std]
    by_cases he : e = 0 <;> by_cases h1 : v < lo <;> by_cases h2 : hi < v <;> simp [he, h1, h2]

set_option maxRecDepth 100000 in
set_option maxHeartbeats 400000 in
theorem refTextP : Meth Tryd.prog 111 97 sRdText := by
  refine Meth.of (E := tb) (C := [(143, appPure sLebNext)]) [] 0 [(3, [(0, true), (1, true), (2, true), (3, true), (4, true), (5, true), (6, true), (7, true), (8, false), (9, true), (10, true), (11, true), (12, true), (13, true), (14, true), (15, true)])] tb_ok (CtsOk.cons (Pure.ct refNextP) <| CtsOk.nil _) (by kernel_rfl) Tryd.func111 rfl rfl rfl (by kernel_rfl) (by kernel_rfl) ?_ ?_
  · intro cs args pre r cs' h
    unfold sRdText at h
    split at h
    · cases h; first | rfl | exact ⟨rfl, rfl⟩
    · cases h
  · intro cs args pre r cs' h hp
    unfold sRdText at h
    split at h
    rotate_left
    · cases h
    rename_i l a b hi
    cases h
    unfold sLebNext
    generalize hg0 : numS = g0
    generalize hg1 : textS = g1
    generalize hg2 : countS = g2
    generalize hg3 : endS = g3
    generalize hg4 : Leb.next = g4
    generalize hg5 : isI64 = g5
    generalize hg6 : okRd = g6
    generalize hg7 : (List.length : List UInt8 → Nat) = g7
    generalize hA : Arith.std = A
    cbv
    subst hA hg0 hg1 hg2 hg3 hg4 hg5 hg6 hg7
    have h64 : isI64 a := by obtain ⟨h1, h2, h3, h4, h5⟩ := hp; unfold isI64; omega
    have hlen : l.length ≤ 140737488351232 := hp.2.2.1
    obtain ⟨g1, g2, g3, g4, g5⟩ := hp
    have hr := Leb.next_range l a
    refine Ife.mk (fun h => ?_) (fun h => ?_)
    · have h : b ≠ 0 := by simpa [Arith.std] using h
      simp [textS, h]
    have hb : b = 0 := by simpa [Arith.std] using h
    subst hb
    refine Need.mk ⟨hlen, h64⟩ fun _ => ?_
    unfold textS
    generalize Leb.next l a = r at hr ⊢
    obtain ⟨v, p, e⟩ := r
    dsimp only at hr ⊢
    simp only [Ife_iff, Need_iff, Arith.std]
    have hcut : List.drop p.toNat (List.take (p + v).toNat l) = cut l p v := by
      unfold cut
      rw [List.drop_take]
      congr 1
      omega
    by_cases he : e = 0
    · subst he
      by_cases h1 : hi < v
      · simp [h1]
      · by_cases h2 : (l.length : Int) - p < v
        · simp [h1, h2, fitStd]
          omega
        · simp [h1, h2, hcut, fitStd]
          omega
    · simp [he]


end Vx
end Go.Proofs.YthomoliklfmnkaaDoor
end

section
/- Sums written and read, by the walker (without the place At). -/
namespace Go.Proofs.YthomoliklfmnkaaDoor.Vx
def tbW : Tbl where
  T :=
    (3, ⟨1, false, [.int .i64 (0)], .int .i64, 8⟩) ::
    (4, ⟨1, false, [.ff], .bool, 1⟩) ::
    (9, ⟨1, false, [.str []], .str, 16⟩) ::
    (5, ⟨1, false, [.int .u8 (0)], .int .u8, 1⟩) ::
    (171, ⟨1, false, [.int .u64 (0)], .int .u64, 8⟩) ::
    (158, ⟨1, false, [.val (.slice none 0 0)], .slice 5, 24⟩) ::
    (55, ⟨1, false, [.int .i64 (0)], .int .i64, 8⟩) ::
    (24, ⟨32, true, [.int .u8 (0), .int .u8 (0), .int .u8 (0), .int .u8 (0), .int .u8 (0), .int .u8 (0), .int .u8 (0), .int .u8 (0), .int .u8 (0), .int .u8 (0), .int .u8 (0), .int .u8 (0), .int .u8 (0), .int .u8 (0), .int .u8 (0), .int .u8 (0), .int .u8 (0), .int .u8 (0), .int .u8 (0), .int .u8 (0), .int .u8 (0), .int .u8 (0), .int .u8 (0), .int .u8 (0), .int .u8 (0), .int .u8 (0), .int .u8 (0), .int .u8 (0), .int .u8 (0), .int .u8 (0), .int .u8 (0), .int .u8 (0)], .array 32 5, 32⟩) ::
    (155, ⟨3, true, [.str [], .int .i64 (0), .int .i64 (0)], .struct [(0, (1, false)), (1, (1, false)), (2, (1, false))], 32⟩) ::
    (160, ⟨2, true, [.val (.slice none 0 0), .ff], .struct [(0, (1, false)), (1, (1, false))], 32⟩) ::
    (97, ⟨3, true, [.str [], .int .i64 (0), .int .i64 (0)], .struct [(0, (1, false)), (1, (1, false)), (2, (1, false))], 32⟩) ::
    (101, ⟨1, false, [.val (.pointer none)], .ptr 160, 8⟩) ::
    (93, ⟨1, false, [.val (.pointer none)], .ptr 155, 8⟩) ::
    []
  F :=
    (24, [0, 0, 0, 0, 0, 0, 0, 0, 0, 0, 0, 0, 0, 0, 0, 0, 0, 0, 0, 0, 0, 0, 0, 0, 0, 0, 0, 0, 0, 0, 0, 0]) ::
    []
  sym := true

theorem tbW_ok : tbW.Ok Tryd.prog where
  T :=
    TblOk.cons (by kernel_rfl) <|
    TblOk.cons (by kernel_rfl) <|
    TblOk.cons (by kernel_rfl) <|
    TblOk.cons (by kernel_rfl) <|
    TblOk.cons (by kernel_rfl) <|
    TblOk.cons (by kernel_rfl) <|
    TblOk.cons (by kernel_rfl) <|
    TblOk.cons (by kernel_rfl) <|
    TblOk.cons (by kernel_rfl) <|
    TblOk.cons (by kernel_rfl) <|
    TblOk.cons (by kernel_rfl) <|
    TblOk.cons (by kernel_rfl) <|
    TblOk.cons (by kernel_rfl) <|
    TblOk.nil _
  F :=
    FlatsOk.cons (FlatOk.of (D := .array 32 5) 6 (by decide) (by kernel_rfl) (by kernel_rfl) rfl (by kernel_rfl)) <|
    FlatsOk.nil _

end Go.Proofs.YthomoliklfmnkaaDoor.Vx
namespace Go.Proofs.YthomoliklfmnkaaDoor
open Go.RowKit
set_option linter.unusedVariables false
set_option linter.unusedSimpArgs false

/-- A byte of a text, as a number. -/
def byteI (l : List UInt8) (i : Nat) : Int := ((l.getD i 0).toNat : Int)
theorem byteI_range (l : List UInt8) (i : Nat) : 0 ≤ byteI l i ∧ byteI l i < 256 := by
  unfold byteI
  have := (l.getD i 0).toNat_lt
  omega
theorem cut_byte {l : List UInt8} {a : Int} (h0 : 0 ≤ a) (h : a + 32 ≤ l.length) (i : Nat) (hi : i < 32) : ((((l.take l.length).drop a.toNat).getD i 0).toNat : Int) = byteI (cut l a 32) i := by
  unfold byteI cut
  congr 2
  simp only [List.take_length, List.getD_eq_getElem?_getD, List.getElem?_drop, List.getElem?_take]
  rw [if_pos (by omega)]
theorem cut_at {l : List UInt8} {a : Int} (h0 : 0 ≤ a) (h : a + 32 ≤ l.length) (i : Nat) (hi : i < 32) : byteI (cut l a 32) i = byteI l (a.toNat + i) := by
  unfold byteI cut
  congr 2
  simp only [List.getD_eq_getElem?_getD, List.getElem?_drop, List.getElem?_take]
  rw [if_pos (by omega)]
theorem zero_byte (i : Nat) : byteI (List.replicate 32 0) i = 0 := by
  unfold byteI
  by_cases h : i < 32
  · rw [List.getD_eq_getElem?_getD, List.getElem?_replicate, if_pos h]; rfl
  · rw [List.getD_eq_getElem?_getD, List.getElem?_replicate, if_neg h]; rfl
theorem ok_hash {l : List UInt8} {a b : Int} (h : okRd l a b) : okRd l (hashS l a b).2.1 (hashS l a b).2.2 := by
  obtain ⟨h1, h2, h3, h4, h5⟩ := h
  unfold hashS okRd
  split
  · exact ⟨h1, h2, h3, h4, h5⟩
  · split
    · dsimp only; omega
    · dsimp only; omega
namespace Vx
/-- A sum's bytes. -/
def hashOf (l : List Int) : List UInt8 := l.map fun n => UInt8.ofNat n.toNat
def sHashW : SpecW
  | l, b, [.agg [.int .u8 n0, .int .u8 n1, .int .u8 n2, .int .u8 n3, .int .u8 n4, .int .u8 n5, .int .u8 n6, .int .u8 n7, .int .u8 n8, .int .u8 n9, .int .u8 n10, .int .u8 n11, .int .u8 n12, .int .u8 n13, .int .u8 n14, .int .u8 n15, .int .u8 n16, .int .u8 n17, .int .u8 n18, .int .u8 n19, .int .u8 n20, .int .u8 n21, .int .u8 n22, .int .u8 n23, .int .u8 n24, .int .u8 n25, .int .u8 n26, .int .u8 n27, .int .u8 n28, .int .u8 n29, .int .u8 n30, .int .u8 n31]] => some (l.length ≤ 140737488355000, .tup [], putW l (hashOf [n0, n1, n2, n3, n4, n5, n6, n7, n8, n9, n10, n11, n12, n13, n14, n15, n16, n17, n18, n19, n20, n21, n22, n23, n24, n25, n26, n27, n28, n29, n30, n31]) b, b)
  | _, _, _ => none

def sHash : Spec1
  | [.str l, .int .i64 a, .int .i64 b], [] => some (okRd l a b, .agg [.int .u8 (byteI (hashS l a b).1 0), .int .u8 (byteI (hashS l a b).1 1), .int .u8 (byteI (hashS l a b).1 2), .int .u8 (byteI (hashS l a b).1 3), .int .u8 (byteI (hashS l a b).1 4), .int .u8 (byteI (hashS l a b).1 5), .int .u8 (byteI (hashS l a b).1 6), .int .u8 (byteI (hashS l a b).1 7), .int .u8 (byteI (hashS l a b).1 8), .int .u8 (byteI (hashS l a b).1 9), .int .u8 (byteI (hashS l a b).1 10), .int .u8 (byteI (hashS l a b).1 11), .int .u8 (byteI (hashS l a b).1 12), .int .u8 (byteI (hashS l a b).1 13), .int .u8 (byteI (hashS l a b).1 14), .int .u8 (byteI (hashS l a b).1 15), .int .u8 (byteI (hashS l a b).1 16), .int .u8 (byteI (hashS l a b).1 17), .int .u8 (byteI (hashS l a b).1 18), .int .u8 (byteI (hashS l a b).1 19), .int .u8 (byteI (hashS l a b).1 20), .int .u8 (byteI (hashS l a b).1 21), .int .u8 (byteI (hashS l a b).1 22), .int .u8 (byteI (hashS l a b).1 23), .int .u8 (byteI (hashS l a b).1 24), .int .u8 (byteI (hashS l a b).1 25), .int .u8 (byteI (hashS l a b).1 26), .int .u8 (byteI (hashS l a b).1 27), .int .u8 (byteI (hashS l a b).1 28), .int .u8 (byteI (hashS l a b).1 29), .int .u8 (byteI (hashS l a b).1 30), .int .u8 (byteI (hashS l a b).1 31)], [.str l, .int .i64 (hashS l a b).2.1, .int .i64 (hashS l a b).2.2])
  | _, _ => none

def sHText : List SV → Option (Prop × SV)
  | [.agg [.int .u8 n0, .int .u8 n1, .int .u8 n2, .int .u8 n3, .int .u8 n4, .int .u8 n5, .int .u8 n6, .int .u8 n7, .int .u8 n8, .int .u8 n9, .int .u8 n10, .int .u8 n11, .int .u8 n12, .int .u8 n13, .int .u8 n14, .int .u8 n15, .int .u8 n16, .int .u8 n17, .int .u8 n18, .int .u8 n19, .int .u8 n20, .int .u8 n21, .int .u8 n22, .int .u8 n23, .int .u8 n24, .int .u8 n25, .int .u8 n26, .int .u8 n27, .int .u8 n28, .int .u8 n29, .int .u8 n30, .int .u8 n31]] => some (True, .c (.str (hashOf [n0, n1, n2, n3, n4, n5, n6, n7, n8, n9, n10, n11, n12, n13, n14, n15, n16, n17, n18, n19, n20, n21, n22, n23, n24, n25, n26, n27, n28, n29, n30, n31])))
  | _ => none

set_option maxRecDepth 100000 in
set_option maxHeartbeats 400000 in
theorem hashWP : MethW Tryd.prog 115 160 5 sHashW := by
  refine MethW.of (E := tbW) (C := [(145, appW 160 5 sPut)]) [] 0 [] tbW_ok (CtsOk.cons (MethW.ct putP) <| CtsOk.nil _) (by kernel_rfl) Tryd.func115 rfl rfl rfl (by kernel_rfl) (by kernel_rfl) ?_ ?_
  · intro l b args pre r l' b' h
    unfold sHashW at h
    split at h
    · cases h; first | rfl | exact ⟨rfl, rfl⟩
    · cases h
  · intro l b args pre r l' b' h hp
    unfold sHashW at h
    split at h
    rotate_left
    · cases h
    rename_i n0 n1 n2 n3 n4 n5 n6 n7 n8 n9 n10 n11 n12 n13 n14 n15 n16 n17 n18 n19 n20 n21 n22 n23 n24 n25 n26 n27 n28 n29 n30 n31
    cases h
    unfold sPut
    generalize hg0 : putW = g0
    generalize hg1 : fitPut = g1
    generalize hg2 : hashOf = g2
    generalize hA : Arith.std = A
    cbv
    subst hA hg0 hg1 hg2
    refine Need.mk (show _ ≤ _ by simp; omega) fun _ => ?_
    exact ⟨rfl, trivial⟩

set_option maxRecDepth 100000 in
set_option maxHeartbeats 400000 in
theorem rdHashP : Meth Tryd.prog 142 155 sHash := by
  refine Meth.of (E := tbW) (C := [(158, appMeth 155 sFail)]) [2] 0 [(2, [(0, true), (1, true), (2, true), (3, true), (4, true), (5, true), (6, true), (7, true), (8, true), (9, true), (10, true)]), (6, [(0, true), (1, true), (2, true), (3, true), (4, true), (5, true), (6, true), (7, true), (8, true), (9, true), (10, true), (11, true), (12, true), (13, true), (14, false), (15, true), (1016, false), (16, true), (17, true), (18, false)])] tbW_ok (CtsOk.cons (Meth.ct failP) <| CtsOk.nil _) (by kernel_rfl) Tryd.func142 rfl rfl rfl (by kernel_rfl) (by kernel_rfl) ?_ ?_
  · intro cs args pre r cs' h
    unfold sHash at h
    split at h
    · cases h; first | rfl | exact ⟨rfl, rfl⟩
    · cases h
  · intro cs args pre r cs' h hp
    unfold sHash at h
    split at h
    rotate_left
    · cases h
    rename_i l a b
    cases h
    unfold sFail
    generalize hg0 : failS = g0
    generalize hg1 : hashS = g1
    generalize hg2 : byteI = g2
    generalize hg3 : okRd = g3
    generalize hg4 : (List.length : List UInt8 → Nat) = g4
    generalize hA : Arith.std = A
    cbv
    subst hA hg0 hg1 hg2 hg3 hg4
    obtain ⟨h1, h2, h3, h4, h5⟩ := hp
    refine Need.mk (show -9223372036854775808 ≤ (l.length : Int) - a ∧ (l.length : Int) - a ≤ 9223372036854775807 by omega) fun _ => ?_
    refine Ife.mk (fun h => ?_) (fun h => ?_)
    · have h : (l.length : Int) - a < 32 := of_decide_eq_true (p := (l.length : Int) - a < 32) h
      refine Need.mk trivial fun _ => ?_
      have hf : failS b 2 ≠ 0 := by
        unfold failS
        split
        · decide
        · assumption
      refine Ife.mk (fun _ => ?_) (fun h => absurd h (by simp [Arith.std, hf]))
      have hS : hashS l a b = (List.replicate 32 0, a, failS b 2) := by
        unfold hashS failS
        by_cases hb : b = 0
        · rw [if_neg (by simp [hb]), if_pos h, if_pos hb]
        · rw [if_pos hb, if_neg hb]
      rw [hS]
      exact ⟨⟨(zero_byte 0).symm, (zero_byte 1).symm, (zero_byte 2).symm, (zero_byte 3).symm, (zero_byte 4).symm, (zero_byte 5).symm, (zero_byte 6).symm, (zero_byte 7).symm, (zero_byte 8).symm, (zero_byte 9).symm, (zero_byte 10).symm, (zero_byte 11).symm, (zero_byte 12).symm, (zero_byte 13).symm, (zero_byte 14).symm, (zero_byte 15).symm, (zero_byte 16).symm, (zero_byte 17).symm, (zero_byte 18).symm, (zero_byte 19).symm, (zero_byte 20).symm, (zero_byte 21).symm, (zero_byte 22).symm, (zero_byte 23).symm, (zero_byte 24).symm, (zero_byte 25).symm, (zero_byte 26).symm, (zero_byte 27).symm, (zero_byte 28).symm, (zero_byte 29).symm, (zero_byte 30).symm, (zero_byte 31).symm, trivial⟩, ⟨rfl, rfl, trivial⟩, trivial⟩
    · have h : ¬ (l.length : Int) - a < 32 := of_decide_eq_false (p := (l.length : Int) - a < 32) h
      refine Ife.mk (fun hb => ?_) (fun hb => ?_)
      · have hb : b ≠ 0 := by simpa [Arith.std] using hb
        have hS : hashS l a b = (List.replicate 32 0, a, b) := by
          unfold hashS
          rw [if_pos hb]
        rw [hS]
        exact ⟨⟨(zero_byte 0).symm, (zero_byte 1).symm, (zero_byte 2).symm, (zero_byte 3).symm, (zero_byte 4).symm, (zero_byte 5).symm, (zero_byte 6).symm, (zero_byte 7).symm, (zero_byte 8).symm, (zero_byte 9).symm, (zero_byte 10).symm, (zero_byte 11).symm, (zero_byte 12).symm, (zero_byte 13).symm, (zero_byte 14).symm, (zero_byte 15).symm, (zero_byte 16).symm, (zero_byte 17).symm, (zero_byte 18).symm, (zero_byte 19).symm, (zero_byte 20).symm, (zero_byte 21).symm, (zero_byte 22).symm, (zero_byte 23).symm, (zero_byte 24).symm, (zero_byte 25).symm, (zero_byte 26).symm, (zero_byte 27).symm, (zero_byte 28).symm, (zero_byte 29).symm, (zero_byte 30).symm, (zero_byte 31).symm, trivial⟩, ⟨rfl, rfl, trivial⟩, trivial⟩
      · have hb : b = 0 := by simpa [Arith.std] using hb
        subst hb
        have hS : hashS l a 0 = (cut l a 32, a + 32, 0) := by
          unfold hashS
          rw [if_neg (by simp), if_neg h]
        have hc := fun i hi => cut_byte (l := l) h1 (by omega) i hi
        refine Need.mk (show 0 ≤ a ∧ a ≤ (l.length : Int) ∧ (l.length : Int) ≤ (l.length : Int) from ⟨h1, h2, by omega⟩) fun _ => ?_
        refine Need.mk (show 32 ≤ ((l.take (l.length : Int).toNat).drop a.toNat).length by simp; omega) fun _ => ?_
        refine Need.mk (show -9223372036854775808 ≤ a + 32 ∧ a + 32 ≤ 9223372036854775807 by omega) fun _ => ?_
        rw [hS]
        exact ⟨⟨hc 0 (by decide), hc 1 (by decide), hc 2 (by decide), hc 3 (by decide), hc 4 (by decide), hc 5 (by decide), hc 6 (by decide), hc 7 (by decide), hc 8 (by decide), hc 9 (by decide), hc 10 (by decide), hc 11 (by decide), hc 12 (by decide), hc 13 (by decide), hc 14 (by decide), hc 15 (by decide), hc 16 (by decide), hc 17 (by decide), hc 18 (by decide), hc 19 (by decide), hc 20 (by decide), hc 21 (by decide), hc 22 (by decide), hc 23 (by decide), hc 24 (by decide), hc 25 (by decide), hc 26 (by decide), hc 27 (by decide), hc 28 (by decide), hc 29 (by decide), hc 30 (by decide), hc 31 (by decide), trivial⟩, ⟨rfl, rfl, trivial⟩, trivial⟩

structure LH (l : List UInt8) (a : Int) where
  i : Int
  g : Nat → Int
  h0 : 0 ≤ i
  h1 : i ≤ 32
  h2 : ∀ j : Nat, (j : Int) < i → g j = byteI l (a.toNat + j)
structure LT (ns : List Int) where
  i : Int
  g : Nat → Int
  h0 : 0 ≤ i
  h1 : i ≤ 32
  h2 : ∀ j : Nat, (j : Int) < i → g j = ns.getD j 0
set_option maxRecDepth 100000 in
set_option maxHeartbeats 400000 in
theorem refHashP : Meth Tryd.prog 112 97 sHash := by
  refine Meth.of (E := tbW) (C := []) [2] 0 [(2, [(0, true), (1, true), (2, true), (3, true), (4, true), (5, true), (6, true), (7, true), (8, true), (9, true), (10, true), (11, true), (12, true), (13, true), (14, true), (15, true), (16, true), (17, true)]), (9, [(0, true), (1, true), (2, true), (3, true), (4, true), (5, true), (6, true), (7, true), (8, true), (9, true), (10, true), (11, true), (12, true), (13, false)])] tbW_ok (CtsOk.nil _) (by kernel_rfl) Tryd.func112 rfl rfl rfl (by kernel_rfl) (by kernel_rfl) ?_ ?_
  · intro cs args pre r cs' h
    unfold sHash at h
    split at h
    · cases h; first | rfl | exact ⟨rfl, rfl⟩
    · cases h
  · intro cs args pre r cs' h hp
    unfold sHash at h
    split at h
    rotate_left
    · cases h
    rename_i l a b
    cases h
    generalize hg0 : hashS = g0
    generalize hg1 : byteI = g1
    generalize hg2 : okRd = g2
    generalize hg3 : (List.length : List UInt8 → Nat) = g3
    generalize hL : lft Tryd.prog _ = L
    generalize hA : Arith.std = A
    cbv
    subst hA hg0 hg1 hg2 hg3 hL
    obtain ⟨h1, h2, h3, h4, h5⟩ := hp
    refine Ife.mk (fun h => ?_) (fun h => ?_)
    · have hb : b = 0 := by simpa [Arith.std] using h
      subst hb
      refine Need.mk (show -9223372036854775808 ≤ (l.length : Int) - a ∧ (l.length : Int) - a ≤ 9223372036854775807 by omega) fun _ => ?_
      refine Ife.mk (fun h => ?_) (fun h => ?_)
      · have h : (l.length : Int) - a < 32 := of_decide_eq_true (p := (l.length : Int) - a < 32) h
        have hS : hashS l a 0 = (List.replicate 32 0, a, 2) := by
          unfold hashS
          rw [if_neg (by simp), if_pos h]
        rw [hS]
        refine Ife.mk (fun _ => ?_) (fun h => absurd h (by simp [Arith.std]))
        exact ⟨⟨(zero_byte 0).symm, (zero_byte 1).symm, (zero_byte 2).symm, (zero_byte 3).symm, (zero_byte 4).symm, (zero_byte 5).symm, (zero_byte 6).symm, (zero_byte 7).symm, (zero_byte 8).symm, (zero_byte 9).symm, (zero_byte 10).symm, (zero_byte 11).symm, (zero_byte 12).symm, (zero_byte 13).symm, (zero_byte 14).symm, (zero_byte 15).symm, (zero_byte 16).symm, (zero_byte 17).symm, (zero_byte 18).symm, (zero_byte 19).symm, (zero_byte 20).symm, (zero_byte 21).symm, (zero_byte 22).symm, (zero_byte 23).symm, (zero_byte 24).symm, (zero_byte 25).symm, (zero_byte 26).symm, (zero_byte 27).symm, (zero_byte 28).symm, (zero_byte 29).symm, (zero_byte 30).symm, (zero_byte 31).symm, trivial⟩, ⟨rfl, rfl, trivial⟩, trivial⟩
      · have h : ¬ (l.length : Int) - a < 32 := of_decide_eq_false (p := (l.length : Int) - a < 32) h
        have hS : hashS l a 0 = (cut l a 32, a + 32, 0) := by
          unfold hashS
          rw [if_neg (by simp), if_neg h]
        have hc := fun i hi => cut_at (l := l) h1 (by omega) i hi
        refine Ife.mk (fun h => absurd h (by simp [Arith.std])) (fun _ => ?_)
        rw [hS]
        obtain ⟨len, hlen⟩ : ∃ n : Int, n = (l.length : Int) := ⟨_, rfl⟩
        have e1 : a + 32 ≤ len := by omega
        have e2 : len ≤ 140737488351232 := by omega
        show Runs Tryd.prog 1 (.loop _) _ _
        refine loop_ruleR (N := env (lft Tryd.prog 1) 0 .std tbW [] [(2, [(0, true), (1, true), (2, true), (3, true), (4, true), (5, true), (6, true), (7, true), (8, true), (9, true), (10, true), (11, true), (12, true), (13, true), (14, true), (15, true), (16, true), (17, true)]), (9, [(0, true), (1, true), (2, true), (3, true), (4, true), (5, true), (6, true), (7, true), (8, true), (9, true), (10, true), (11, true), (12, true), (13, false)])]) rfl tbW_ok (CtsOk.nil _) (fun c st K _ h => h) (by kernel_rfl) [2] (X := LH l a)
          (S := fun x => ⟨[.c (.ptr 0 0), .any, .c (.ptr 1 0), .c (.ptr 2 0), .c (.int .i64 x.i)] ++ List.replicate 52 .any, [.cells 97 [.str l, .int .i64 a, .int .i64 0], .cells 24 [.int .u8 0, .int .u8 0, .int .u8 0, .int .u8 0, .int .u8 0, .int .u8 0, .int .u8 0, .int .u8 0, .int .u8 0, .int .u8 0, .int .u8 0, .int .u8 0, .int .u8 0, .int .u8 0, .int .u8 0, .int .u8 0, .int .u8 0, .int .u8 0, .int .u8 0, .int .u8 0, .int .u8 0, .int .u8 0, .int .u8 0, .int .u8 0, .int .u8 0, .int .u8 0, .int .u8 0, .int .u8 0, .int .u8 0, .int .u8 0, .int .u8 0, .int .u8 0], .cells 24 [.int .u8 (x.g 0), .int .u8 (x.g 1), .int .u8 (x.g 2), .int .u8 (x.g 3), .int .u8 (x.g 4), .int .u8 (x.g 5), .int .u8 (x.g 6), .int .u8 (x.g 7), .int .u8 (x.g 8), .int .u8 (x.g 9), .int .u8 (x.g 10), .int .u8 (x.g 11), .int .u8 (x.g 12), .int .u8 (x.g 13), .int .u8 (x.g 14), .int .u8 (x.g 15), .int .u8 (x.g 16), .int .u8 (x.g 17), .int .u8 (x.g 18), .int .u8 (x.g 19), .int .u8 (x.g 20), .int .u8 (x.g 21), .int .u8 (x.g 22), .int .u8 (x.g 23), .int .u8 (x.g 24), .int .u8 (x.g 25), .int .u8 (x.g 26), .int .u8 (x.g 27), .int .u8 (x.g 28), .int .u8 (x.g 29), .int .u8 (x.g 30), .int .u8 (x.g 31)]]⟩) (μ := fun x => 32 - x.i.toNat) ⟨0, fun _ => 0, by omega, by omega, fun j hj => by omega⟩ (by kernel_rfl) [0, 1, 2] ?_ ?_
        · refine ⟨rfl, by decide, ?_, ?_⟩ <;> repeat' (first | exact trivial | exact rfl | apply And.intro)
        rintro ⟨i, g, hi0, hin, hall⟩
        generalize hg0 : byteI = g0
        generalize hg1 : cut = g1
        generalize hg2 : (List.length : List UInt8 → Nat) = g2
        generalize hL : lft Tryd.prog _ = L
        generalize hA : Arith.std = A
        cbv
        subst hA hg0 hg1 hg2 hL
        replace hall : ∀ j : Nat, (j : Int) < i → g j = byteI l (a.toNat + j) := hall
        have hlen2 : len = (l.length : Int) := hlen
        replace hi0 : 0 ≤ i := hi0
        replace hin : i ≤ 32 := hin
        refine Ife.mk (fun h => ?_) (fun h => ?_)
        · have hlt : i < 32 := of_decide_eq_true (p := i < 32) h
          refine Need.mk (show -9223372036854775808 ≤ a + i ∧ a + i ≤ 9223372036854775807 by omega) fun _ => ?_
          refine Need.mk (show 0 ≤ a + i ∧ a + i < (l.length : Int) by omega) fun _ => ?_
          refine Need.mk (show 0 ≤ i ∧ i < ((32 : Nat) : Int) by omega) fun _ => ?_
          refine Need.mk (show i.toNat < 32 by omega) fun _ => ?_
          refine Need.mk (show -9223372036854775808 ≤ i + 1 ∧ i + 1 ≤ 9223372036854775807 by omega) fun _ => ?_
          refine ⟨⟨i + 1, fun j => Arith.std.upd i.toNat j (Arith.std.at_ l (a + i)) (g j), by omega, by omega, fun j hj => ?_⟩, [0, 1, 2], by show 32 - (i + 1).toNat < 32 - i.toNat; omega, ?_⟩
          · show (if i.toNat = j then (((l.getD (a + i).toNat 0).toNat : Nat) : Int) else g j) = _
            by_cases hji : i.toNat = j
            · rw [if_pos hji]
              unfold byteI
              rw [show (a + i).toNat = a.toNat + j by omega]
            · rw [if_neg hji]
              exact hall j (by omega)
          · refine ⟨rfl, by decide, ?_, ?_⟩ <;> repeat' (first | exact trivial | exact rfl | apply And.intro)
        · have hnlt : ¬ i < 32 := of_decide_eq_false (p := i < 32) h
          have hq : ∀ k : Nat, k < 32 → g k = byteI (cut l a 32) k := fun k hk => (hall k (by omega)).trans (hc k hk).symm
          refine Need.mk (show -9223372036854775808 ≤ a + 32 ∧ a + 32 ≤ 9223372036854775807 by omega) fun _ => ?_
          refine ⟨⟨hq 0 (by decide), hq 1 (by decide), hq 2 (by decide), hq 3 (by decide), hq 4 (by decide), hq 5 (by decide), hq 6 (by decide), hq 7 (by decide), hq 8 (by decide), hq 9 (by decide), hq 10 (by decide), hq 11 (by decide), hq 12 (by decide), hq 13 (by decide), hq 14 (by decide), hq 15 (by decide), hq 16 (by decide), hq 17 (by decide), hq 18 (by decide), hq 19 (by decide), hq 20 (by decide), hq 21 (by decide), hq 22 (by decide), hq 23 (by decide), hq 24 (by decide), hq 25 (by decide), hq 26 (by decide), hq 27 (by decide), hq 28 (by decide), hq 29 (by decide), hq 30 (by decide), hq 31 (by decide), trivial⟩, ?_⟩
          repeat' (first | exact trivial | exact rfl | apply And.intro)
    · have hb : b ≠ 0 := by simpa [Arith.std] using h
      have hS : hashS l a b = (List.replicate 32 0, a, b) := by
        unfold hashS
        rw [if_pos hb]
      rw [hS]
      refine Ife.mk (fun _ => ?_) (fun h => absurd h (by simp [Arith.std, hb]))
      exact ⟨⟨(zero_byte 0).symm, (zero_byte 1).symm, (zero_byte 2).symm, (zero_byte 3).symm, (zero_byte 4).symm, (zero_byte 5).symm, (zero_byte 6).symm, (zero_byte 7).symm, (zero_byte 8).symm, (zero_byte 9).symm, (zero_byte 10).symm, (zero_byte 11).symm, (zero_byte 12).symm, (zero_byte 13).symm, (zero_byte 14).symm, (zero_byte 15).symm, (zero_byte 16).symm, (zero_byte 17).symm, (zero_byte 18).symm, (zero_byte 19).symm, (zero_byte 20).symm, (zero_byte 21).symm, (zero_byte 22).symm, (zero_byte 23).symm, (zero_byte 24).symm, (zero_byte 25).symm, (zero_byte 26).symm, (zero_byte 27).symm, (zero_byte 28).symm, (zero_byte 29).symm, (zero_byte 30).symm, (zero_byte 31).symm, trivial⟩, ⟨rfl, rfl, trivial⟩, trivial⟩

set_option maxRecDepth 100000 in
set_option maxHeartbeats 400000 in
theorem refHTextP : Pure Tryd.prog 96 sHText := by
  refine Pure.of (E := tbW) (C := []) [] 0 [] tbW_ok (CtsOk.nil _) (by kernel_rfl) Tryd.func96 rfl rfl rfl (by kernel_rfl) (by kernel_rfl) ?_ ?_
  · intro args pre r h
    unfold sHText at h
    split at h
    · cases h; first | rfl | exact ⟨rfl, rfl⟩
    · cases h
  · intro args pre r h hp
    unfold sHText at h
    split at h
    rotate_left
    · cases h
    rename_i n0 n1 n2 n3 n4 n5 n6 n7 n8 n9 n10 n11 n12 n13 n14 n15 n16 n17 n18 n19 n20 n21 n22 n23 n24 n25 n26 n27 n28 n29 n30 n31
    cases h
    generalize hg0 : hashOf = g0
    generalize hL : lft Tryd.prog _ = L
    generalize hA : Arith.std = A
    cbv
    subst hA hg0 hL
    show Runs Tryd.prog 0 (.loop _) _ _
    refine loop_ruleR (N := env (lft Tryd.prog 0) 0 .std tbW [] []) rfl tbW_ok (CtsOk.nil _) (fun c st K _ h => h) (by kernel_rfl) [] (X := LT [n0, n1, n2, n3, n4, n5, n6, n7, n8, n9, n10, n11, n12, n13, n14, n15, n16, n17, n18, n19, n20, n21, n22, n23, n24, n25, n26, n27, n28, n29, n30, n31])
      (S := fun x => ⟨[.any, .c (.ptr 0 0), .any, .c (.sl 1 0 32 32), .c (.int .i64 x.i)] ++ List.replicate 13 .any, [.cells 24 [.int .u8 n0, .int .u8 n1, .int .u8 n2, .int .u8 n3, .int .u8 n4, .int .u8 n5, .int .u8 n6, .int .u8 n7, .int .u8 n8, .int .u8 n9, .int .u8 n10, .int .u8 n11, .int .u8 n12, .int .u8 n13, .int .u8 n14, .int .u8 n15, .int .u8 n16, .int .u8 n17, .int .u8 n18, .int .u8 n19, .int .u8 n20, .int .u8 n21, .int .u8 n22, .int .u8 n23, .int .u8 n24, .int .u8 n25, .int .u8 n26, .int .u8 n27, .int .u8 n28, .int .u8 n29, .int .u8 n30, .int .u8 n31], .cells 5 [.int .u8 (x.g 0), .int .u8 (x.g 1), .int .u8 (x.g 2), .int .u8 (x.g 3), .int .u8 (x.g 4), .int .u8 (x.g 5), .int .u8 (x.g 6), .int .u8 (x.g 7), .int .u8 (x.g 8), .int .u8 (x.g 9), .int .u8 (x.g 10), .int .u8 (x.g 11), .int .u8 (x.g 12), .int .u8 (x.g 13), .int .u8 (x.g 14), .int .u8 (x.g 15), .int .u8 (x.g 16), .int .u8 (x.g 17), .int .u8 (x.g 18), .int .u8 (x.g 19), .int .u8 (x.g 20), .int .u8 (x.g 21), .int .u8 (x.g 22), .int .u8 (x.g 23), .int .u8 (x.g 24), .int .u8 (x.g 25), .int .u8 (x.g 26), .int .u8 (x.g 27), .int .u8 (x.g 28), .int .u8 (x.g 29), .int .u8 (x.g 30), .int .u8 (x.g 31)]]⟩) (μ := fun x => 32 - x.i.toNat) ⟨0, fun _ => 0, by omega, by omega, fun j hj => by omega⟩ (by kernel_rfl) [0, 1] ?_ ?_
    · refine ⟨rfl, by decide, ?_, ?_⟩ <;> repeat' (first | exact trivial | exact rfl | apply And.intro)
    rintro ⟨i, g, hi0, hin, hall⟩
    generalize hg0 : hashOf = g0
    generalize hL : lft Tryd.prog _ = L
    generalize hA : Arith.std = A
    cbv
    subst hA hg0 hL
    replace hi0 : 0 ≤ i := hi0
    replace hin : i ≤ 32 := hin
    replace hall : ∀ j : Nat, (j : Int) < i → g j = [n0, n1, n2, n3, n4, n5, n6, n7, n8, n9, n10, n11, n12, n13, n14, n15, n16, n17, n18, n19, n20, n21, n22, n23, n24, n25, n26, n27, n28, n29, n30, n31].getD j 0 := hall
    refine Ife.mk (fun h => ?_) (fun h => ?_)
    · have hlt : i < 32 := of_decide_eq_true (p := i < 32) h
      refine Need.mk (show 0 ≤ i ∧ i < ((32 : Nat) : Int) by omega) fun _ => ?_
      refine Need.mk (show i.toNat < 32 by omega) fun _ => ?_
      refine Need.mk (show 0 ≤ i ∧ i < ((32 : Nat) : Int) by omega) fun _ => ?_
      refine Need.mk (show i.toNat < 32 by omega) fun _ => ?_
      refine Need.mk (show -9223372036854775808 ≤ i + 1 ∧ i + 1 ≤ 9223372036854775807 by omega) fun _ => ?_
      refine ⟨⟨i + 1, fun j => Arith.std.upd i.toNat j (Arith.std.sel i.toNat [n0, n1, n2, n3, n4, n5, n6, n7, n8, n9, n10, n11, n12, n13, n14, n15, n16, n17, n18, n19, n20, n21, n22, n23, n24, n25, n26, n27, n28, n29, n30, n31]) (g j), by omega, by omega, fun j hj => ?_⟩, [0, 1], by show 32 - (i + 1).toNat < 32 - i.toNat; omega, ?_⟩
      · show (if i.toNat = j then [n0, n1, n2, n3, n4, n5, n6, n7, n8, n9, n10, n11, n12, n13, n14, n15, n16, n17, n18, n19, n20, n21, n22, n23, n24, n25, n26, n27, n28, n29, n30, n31].getD i.toNat 0 else g j) = _
        by_cases hji : i.toNat = j
        · rw [if_pos hji, hji]
        · rw [if_neg hji]
          exact hall j (by omega)
      · refine ⟨rfl, by decide, ?_, ?_⟩ <;> repeat' (first | exact trivial | exact rfl | apply And.intro)
    · have hnlt : ¬ i < 32 := of_decide_eq_false (p := i < 32) h
      have hq : ∀ k : Nat, k < 32 → g k = [n0, n1, n2, n3, n4, n5, n6, n7, n8, n9, n10, n11, n12, n13, n14, n15, n16, n17, n18, n19, n20, n21, n22, n23, n24, n25, n26, n27, n28, n29, n30, n31].getD k 0 := fun k hk => hall k (by omega)
      have e : [g 0, g 1, g 2, g 3, g 4, g 5, g 6, g 7, g 8, g 9, g 10, g 11, g 12, g 13, g 14, g 15, g 16, g 17, g 18, g 19, g 20, g 21, g 22, g 23, g 24, g 25, g 26, g 27, g 28, g 29, g 30, g 31] = [n0, n1, n2, n3, n4, n5, n6, n7, n8, n9, n10, n11, n12, n13, n14, n15, n16, n17, n18, n19, n20, n21, n22, n23, n24, n25, n26, n27, n28, n29, n30, n31] := by
        rw [hq 0 (by decide), hq 1 (by decide), hq 2 (by decide), hq 3 (by decide), hq 4 (by decide), hq 5 (by decide), hq 6 (by decide), hq 7 (by decide), hq 8 (by decide), hq 9 (by decide), hq 10 (by decide), hq 11 (by decide), hq 12 (by decide), hq 13 (by decide), hq 14 (by decide), hq 15 (by decide), hq 16 (by decide), hq 17 (by decide), hq 18 (by decide), hq 19 (by decide), hq 20 (by decide), hq 21 (by decide), hq 22 (by decide), hq 23 (by decide), hq 24 (by decide), hq 25 (by decide), hq 26 (by decide), hq 27 (by decide), hq 28 (by decide), hq 29 (by decide), hq 30 (by decide), hq 31 (by decide)]
        rfl
      show hashOf [g 0, g 1, g 2, g 3, g 4, g 5, g 6, g 7, g 8, g 9, g 10, g 11, g 12, g 13, g 14, g 15, g 16, g 17, g 18, g 19, g 20, g 21, g 22, g 23, g 24, g 25, g 26, g 27, g 28, g 29, g 30, g 31] = hashOf [n0, n1, n2, n3, n4, n5, n6, n7, n8, n9, n10, n11, n12, n13, n14, n15, n16, n17, n18, n19, n20, n21, n22, n23, n24, n25, n26, n27, n28, n29, n30, n31]
      rw [e]

end Vx
end Go.Proofs.YthomoliklfmnkaaDoor
end

section
/- The document's count, by the walker. -/
namespace Go.Proofs.YthomoliklfmnkaaDoor
open Go.RowKit
set_option linter.unusedVariables false
set_option linter.unusedSimpArgs false
namespace Vx
set_option maxRecDepth 100000 in
set_option maxHeartbeats 400000 in
theorem refCountP : Meth Tryd.prog 110 97 sCount := by
  refine Meth.of (E := tb) (C := [(143, appPure sLebNext)]) [] 0 [(3, [(0, true), (1, true), (2, true), (3, true), (4, true), (5, true), (6, true), (7, true), (8, false), (9, true), (10, true), (11, true), (12, true), (13, true), (14, true), (15, true)])] tb_ok (CtsOk.cons (Pure.ct refNextP) <| CtsOk.nil _) (by kernel_rfl) Tryd.func110 rfl rfl rfl (by kernel_rfl) (by kernel_rfl) ?_ ?_
  · intro cs args pre r cs' h
    unfold sCount at h
    split at h
    · cases h; first | rfl | exact ⟨rfl, rfl⟩
    · cases h
  · intro cs args pre r cs' h hp
    unfold sCount at h
    split at h
    rotate_left
    · cases h
    rename_i l a b hi
    cases h
    unfold sLebNext
    generalize hg0 : numS = g0
    generalize hg1 : textS = g1
    generalize hg2 : countS = g2
    generalize hg3 : endS = g3
    generalize hg4 : Leb.next = g4
    generalize hg5 : isI64 = g5
    generalize hg6 : okRd = g6
    generalize hg7 : (List.length : List UInt8 → Nat) = g7
    generalize hA : Arith.std = A
    cbv
    subst hA hg0 hg1 hg2 hg3 hg4 hg5 hg6 hg7
    have h64 : isI64 a := by obtain ⟨h1, h2, h3, h4, h5⟩ := hp; unfold isI64; omega
    have hlen : l.length ≤ 140737488351232 := hp.2.2.1
    obtain ⟨g1, g2, g3, g4, g5⟩ := hp
    have hr := Leb.next_range l a
    refine Ife.mk (fun h => ?_) (fun h => ?_)
    · have h : b ≠ 0 := by simpa [Arith.std] using h
      simp [countS, h]
    have hb : b = 0 := by simpa [Arith.std] using h
    subst hb
    refine Need.mk ⟨hlen, h64⟩ fun _ => ?_
    unfold countS
    generalize Leb.next l a = r at hr ⊢
    obtain ⟨v, p, e⟩ := r
    dsimp only at hr ⊢
    simp only [Ife_iff, Need_iff, Arith.std]
    by_cases he : e = 0 <;> by_cases h2 : hi < v <;> simp [he, h2]

end Vx
end Go.Proofs.YthomoliklfmnkaaDoor
end
