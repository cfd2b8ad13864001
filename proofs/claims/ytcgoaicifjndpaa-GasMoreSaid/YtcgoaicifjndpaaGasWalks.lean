/- The gas meter: what New, Take, Used and Left do. -/
import Derived.Test.YtcgoaicifjndpaaM21
namespace Go.Proofs.Ytcgoaicifjndpaa
open Go.RowKit
set_option linter.unusedVariables false

/-- A meter of which U is used out of L. -/
def IsMeter (w : World) (g : Nat) (L U : Int) : Prop := Blk w g 185 #[.int .i64 L, .int .i64 U] ∧ 0 ≤ U ∧ U ≤ L ∧ L ≤ 9223372036854775807

theorem IsMeter.c0 {w : World} {g : Nat} {L U : Int} (h : IsMeter w g L U) : w.cell? ⟨g, 0, none⟩ = some (.int .i64 L) := h.1.cell 0
theorem IsMeter.c1 {w : World} {g : Nat} {L U : Int} (h : IsMeter w g L U) : w.cell? ⟨g, 1, none⟩ = some (.int .i64 U) := h.1.cell 1
theorem IsMeter.f1 {w : World} {g : Nat} {L U : Int} (h : IsMeter w g L U) : w.frozen? ⟨g, 1, none⟩ = false := h.1.free 1
theorem IsMeter.add {w : World} {g : Nat} {L U n : Int} (h : IsMeter w g L U) (h0 : 0 ≤ n) (h1 : n ≤ L - U) (k : Nat) : IsMeter ((w.setCell ⟨g, 1, none⟩ (.int .i64 (U + n))).drewN k) g L (U + n) :=
  ⟨(h.1.set 1 _).drewN k, by have := h.2; omega, by have := h.2; omega, h.2.2.2⟩

set_option maxHeartbeats 400000 in
theorem gasNew (l : Int) (w : World) (hl : l ≤ 9223372036854775807) :
    Calls Try.prog 91 #[.int .i64 l] w fun e w' => e = .returned (.pointer (some ⟨w.heap.size, 0, none⟩)) ∧ IsMeter w' w.heap.size (max l 0) 0 ∧ w.heap.size + 1 = w'.heap.size ∧ Below w.heap.size w w' := by
  have fin : ∀ m : Int, m = max l 0 → IsMeter (w.alloc (.cells #[.int .i64 m, .int .i64 0] 185)) w.heap.size (max l 0) 0 := by
    rintro _ rfl
    exact ⟨Blk.new _ _ _, by omega, by omega, by omega⟩
  have H := Lib.hid fin
  clear fin
  go_enter Try.func91, Try.ntmps91
  go_wp2
  all_goals
    go_ret
    exact ⟨rfl, H.out _ (by omega), by simp, (Below.refl _ _).alloc (Nat.le_refl _) _⟩

set_option maxHeartbeats 400000 in
theorem gasUsed (g : Nat) (L U : Int) (w : World) (h : IsMeter w g L U) :
    Calls Try.prog 94 #[.pointer (some ⟨g, 0, none⟩)] w fun e w' => e = .returned (.int .i64 U) ∧ w = w' := by
  have h1 := h.c1
  go_enter Try.func94, Try.ntmps94
  go_wp2
  go_ret
  exact ⟨rfl, rfl⟩

set_option maxHeartbeats 400000 in
theorem gasLeft (g : Nat) (L U : Int) (w : World) (h : IsMeter w g L U) :
    Calls Try.prog 93 #[.pointer (some ⟨g, 0, none⟩)] w fun e w' => e = .returned (.int .i64 (L - U)) ∧ ∃ n, w' = w.drewN n := by
  have h0 := h.c0
  have h1 := h.c1
  obtain ⟨-, hU, hL, hm⟩ := h
  go_enter Try.func93, Try.ntmps93
  go_wp2
  go_quiet (fail)
  go_wp2
  go_ret
  exact ⟨rfl, ⟨_, rfl⟩⟩

def TakeEnd (g : Nat) (L U n : Int) (w : World) (e : Ending) (w' : World) : Prop :=
  e = .returned (.bool (decide (0 ≤ n ∧ n ≤ L - U))) ∧ IsMeter w' g L (if 0 ≤ n ∧ n ≤ L - U then U + n else U) ∧ w.grownBy w' (some g)

set_option maxHeartbeats 400000 in
theorem gasTake (g : Nat) (L U n : Int) (w : World) (h : IsMeter w g L U) :
    Calls Try.prog 92 #[.pointer (some ⟨g, 0, none⟩), .int .i64 n] w (TakeEnd g L U n w) := by
  have h0 := h.c0
  have h1 := h.c1
  have hf := h.f1
  have H := Lib.hid h
  obtain ⟨-, hU, hL, hm⟩ := h
  by_cases hn : n < 0
  · go_enter Try.func92, Try.ntmps92
    go_wp2_with fail
    go_ret
    exact ⟨ret_bool (by symm; simp; omega), by rw [if_neg (by omega)]; exact H.out, only_refl _ _⟩
  · by_cases hx : n ≤ L - U
    · go_enter Try.func92, Try.ntmps92
      go_wp2_with (go_at_call 93; refine (gasLeft _ L U _ H.out).mono ?_; rintro e w' ⟨rfl, k, rfl⟩)
      go_ret
      exact ⟨ret_bool (by symm; simp; omega), by rw [if_pos (by omega)]; exact H.out.add (by omega) (by omega) _, only_drewN (only_setCell (only_refl _ _) (.inl rfl) _) _⟩
    · go_enter Try.func92, Try.ntmps92
      go_wp2_with (go_at_call 93; refine (gasLeft _ L U _ H.out).mono ?_; rintro e w' ⟨rfl, k, rfl⟩)
      go_ret
      exact ⟨ret_bool (by symm; simp; omega), by rw [if_neg (by omega)]; exact ⟨H.out.1.drewN _, H.out.2⟩, only_drewN (only_refl _ _) _⟩

set_option maxHeartbeats 400000 in
theorem gasFirst (w : World) :
    Calls Try.prog 43 #[] w fun e w' => e = .returned (.bool true) ∧ Below w.heap.size w w' := by
  go_enter Try.func43, Try.ntmps43
  go_wp2_with fail
  refine (gasNew 10 w (by omega)).mono ?_
  rintro e w1 ⟨rfl, hM, hz, hb⟩
  have H1 : Hid _ := hz
  clear hz
  go_wp2_with (first
    | (go_at_call 92; refine (gasTake _ _ _ _ _ (by assumption)).mono ?_; rintro e w2 ⟨rfl, hM2, ho2⟩; simp at hM2)
    | (go_at_call 93; refine (gasLeft _ _ _ _ (by assumption)).mono ?_; rintro e w2 ⟨rfl, k, rfl⟩)
    | (go_at_call 94; refine (gasUsed _ _ _ _ (by assumption)).mono ?_; rintro e w2 ⟨rfl, rfl⟩))
  go_ret
  exact ⟨rfl, below_drewN (below_only (below_only hb (by assumption) (by have := hb.size; omega) (Nat.le_refl _)) (by assumption) (by have := hb.size; have := (by assumption : World.grownBy w1 _ _).size; omega) (Nat.le_refl _)) _⟩
end Go.Proofs.Ytcgoaicifjndpaa
