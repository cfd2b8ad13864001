/- GasMeter: for any limit and any calls a meter is used and has left as it should. -/
import Derived.Test.YtfchejgohegbgaaGasWalks
namespace Go.Proofs.Ytfchejgohegbgaa
open Go.RowKit
set_option linter.unusedVariables false

set_option maxHeartbeats 1000000 in
theorem gasMeter_walk (w : World) (a0 : Int) (w0 : -9223372036854775808 ≤ a0 ∧ a0 ≤ 9223372036854775807) (a1 : Option Addr) (cap1 : Nat) (xs : List Int) (hx : Ints .i64 w a1 xs) :
    Calls Try.prog 3 #[.int .i64 a0, .slice a1 xs.length cap1] w fun e w' => e = .returned (.bool true) ∧ Below w.heap.size w w' := by
  have hb0 := w0.2
  have hb1 := w0.1
  generalize hn : xs.length = len1 at *
  have HN := Lib.hid hn
  clear hn
  by_cases hlen : len1 ≤ 100
  case neg =>
    have hlen' : (100 : Int) < (len1 : Int) := by omega
    go_enter Try.func3, Try.ntmps3
    go_wp2_with fail
    refine (gasFirst w).mono ?_
    rintro e w1 ⟨rfl, hb⟩
    go_wp2_with fail
    refine (gasFirst w1).mono ?_
    rintro e w2 ⟨rfl, hb2⟩
    go_wp2_with fail
    go_ret
    exact ⟨rfl, hb.trans (hb2.mono hb.size)⟩
  by_cases ha : 0 ≤ a0
  all_goals
    go_enter Try.func3, Try.ntmps3
    go_wp2_with fail
    refine (gasFirst w).mono ?_
    rintro e w1 ⟨rfl, hb⟩
    go_wp2_with fail
    refine (gasNew a0 w1 hb0).mono ?_
    rintro e w2 ⟨rfl, hM, hz, hb2⟩
    have hbb := hb.trans (hb2.mono hb.size)
    have hgs := hb.size
    clear hb hb2
    have HZ := Lib.hid hz
    clear hz
    go_wp2_with fail
    go_loopw [6, 7] (fun l i wr => ∃ (k : Nat) (U : Int), k ≤ len1 ∧ i = .int .i64 k ∧ 0 ≤ U ∧ U ≤ max a0 0 ∧ l = .int .i64 (max a0 0 - U) ∧ IsMeter wr w1.heap.size (max a0 0) U ∧ Below w.heap.size w wr) (fun _ i _ => len1 - (intOf i).toNat)
    case atStart => exact ⟨0, 0, Nat.zero_le _, rfl, by omega, by omega, by first | rfl | go_num, hM, hbb⟩
    case round =>
      obtain ⟨k, U, hk, rfl, hU0, hU1, rfl, hMr, hbr⟩ := hrel
      have hg1 := hgs
      by_cases hlt : k < len1
      · obtain ⟨b, off, rfl, hbz, hc⟩ := hx.at_ hbr (by rw [HN.out]; exact hlt)
        generalize xs.getD k 0 = n at *
        have take := gasTake w1.heap.size (max a0 0) U n wr hMr
        unfold TakeEnd at take
        by_cases hn0 : 0 ≤ n ∧ n ≤ max a0 0 - U
        · rw [if_pos hn0, decide_eq_true hn0] at take
          obtain ⟨hn0, hn1⟩ := hn0
          have HT := Lib.hid take
          clear take
          go_wp2_with fail
          refine HT.out.mono ?_
          clear HT hMr
          rintro e w3 ⟨rfl, hM3, ho3⟩
          have hb3 := below_only hbr ho3 (by have := hbr.size; omega) hgs
          have hc3 := ho3.cell hc (by simp; omega)
          have e1 : (max a0 0 - (U + n) != max a0 0 - U - n) = false := by simp; omega
          have e2 : (U + n != max a0 0 - (max a0 0 - U - n)) = false := by simp; omega
          go_wp2_with (first
            | (go_at_call 19; refine (gasLeft _ _ _ _ hM3).mono ?_; rintro e w4 ⟨rfl, kk, rfl⟩)
            | (go_at_call 20; refine (gasUsed _ _ _ _ (⟨hM3.1.drewN _, hM3.2⟩)).mono ?_; rintro e w4 ⟨rfl, rfl⟩))
          go_roundw
          case rel => exact ⟨k + 1, U + n, by omega, by go_num, by omega, by omega, by go_num, ⟨hM3.1.drewN _, hM3.2⟩, below_drewN hb3 _⟩
          case measure => simp [intOf]; omega
        · rw [if_neg hn0, decide_eq_false hn0] at take
          have HT := Lib.hid take
          clear take
          by_cases hn1 : 0 ≤ n
          all_goals
            go_wp2_with fail
            refine HT.out.mono ?_
            clear HT hMr
            rintro e w3 ⟨rfl, hM3, ho3⟩
            have hb3 := below_only hbr ho3 (by have := hbr.size; omega) hgs
            have e2 : (U != max a0 0 - (max a0 0 - U)) = false := by simp; omega
            go_wp2_with (first
              | (go_at_call 19; refine (gasLeft _ _ _ _ hM3).mono ?_; rintro e w4 ⟨rfl, kk, rfl⟩)
              | (go_at_call 20; refine (gasUsed _ _ _ _ (⟨hM3.1.drewN _, hM3.2⟩)).mono ?_; rintro e w4 ⟨rfl, rfl⟩))
            go_roundw
            case rel => exact ⟨k + 1, U, by omega, by go_num, by omega, by omega, by go_num, ⟨hM3.1.drewN _, hM3.2⟩, below_drewN hb3 _⟩
            case measure => simp [intOf]; omega
      · have e2 : (U == max a0 0 - (max a0 0 - U)) = true := by simp; omega
        go_wp2_with (first
          | (go_at_call 19; refine (gasLeft _ _ _ _ hMr).mono ?_; rintro e w4 ⟨rfl, kk, rfl⟩)
          | (go_at_call 20; refine (gasUsed _ _ _ _ (⟨hMr.1.drewN _, hMr.2⟩)).mono ?_; rintro e w4 ⟨rfl, rfl⟩))
        go_ret
        exact ⟨ret_bool (by simp; omega), below_drewN hbr _⟩
end Go.Proofs.Ytfchejgohegbgaa
