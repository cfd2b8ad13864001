/- The walks of Eight and FromEight. -/
import Derived.Test.YtfchejgohegbgaaLebWalks
namespace Go.Proofs.Ytfchejgohegbgaa
open Go.RowKit
set_option linter.unusedVariables false

/-- The eight cells behind k rounds. -/
def eightCells (n k : Nat) : Array Value :=
  #[if 8 ≤ k then .int .u8 ((n / 256 ^ 7 % 256 : Nat) : Int) else .int .u8 0, if 7 ≤ k then .int .u8 ((n / 256 ^ 6 % 256 : Nat) : Int) else .int .u8 0,
    if 6 ≤ k then .int .u8 ((n / 256 ^ 5 % 256 : Nat) : Int) else .int .u8 0, if 5 ≤ k then .int .u8 ((n / 256 ^ 4 % 256 : Nat) : Int) else .int .u8 0,
    if 4 ≤ k then .int .u8 ((n / 256 ^ 3 % 256 : Nat) : Int) else .int .u8 0, if 3 ≤ k then .int .u8 ((n / 256 ^ 2 % 256 : Nat) : Int) else .int .u8 0,
    if 2 ≤ k then .int .u8 ((n / 256 % 256 : Nat) : Int) else .int .u8 0, if 1 ≤ k then .int .u8 ((n % 256 : Nat) : Int) else .int .u8 0]

theorem eightCells_str (n : Nat) : ∀ i, i < (Leb.eightN n).length → (eightCells n 8)[i]? = some (bv ((Leb.eightN n).getD i 0)) := by
  intro i hi
  have hi' : i < 8 := hi
  have e : ∀ m : Nat, ((UInt8.ofNat (m % 256)).toNat : Int) = ((m % 256 : Nat) : Int) := fun m => by rw [Leb.toNat_ofNat (Nat.mod_lt _ (by decide))]
  have h8 : i = 0 ∨ i = 1 ∨ i = 2 ∨ i = 3 ∨ i = 4 ∨ i = 5 ∨ i = 6 ∨ i = 7 := by omega
  rcases h8 with rfl | rfl | rfl | rfl | rfl | rfl | rfl | rfl <;>
  · simp only [bv, Leb.eightN, List.getD_cons_succ, List.getD_cons_zero, e]
    rfl

/-- What the loop of Eight keeps: its array behind k rounds. -/
def EightRel (n : Nat) (w : World) (t : TypeId) (k : Nat) (wr : World) : Prop := Blk wr w.heap.size t (eightCells n k) ∧ Below w.heap.size w wr

theorem EightRel.cell {n : Nat} {w : World} {t : TypeId} {k : Nat} {wr : World} (h : EightRel n w t k wr) (i : Nat) (hi : i < 8) : ∃ u, wr.cell? ⟨w.heap.size, i, none⟩ = some u := by
  rw [h.1.cell i]
  exact ⟨_, Array.getElem?_eq_getElem (by simpa [eightCells] using hi)⟩

theorem EightRel.step {n : Nat} {w : World} {t : TypeId} {k : Nat} {wr : World} (h : EightRel n w t k wr) (u : Value) (i : Nat) (he : (eightCells n k).setIfInBounds i u = eightCells n (k + 1)) :
    EightRel n w t (k + 1) (wr.setCell ⟨w.heap.size, i, none⟩ u) := by
  refine ⟨?_, h.2.setCell (Nat.le_refl _) _⟩
  rw [← he]
  exact h.1.set i u

set_option maxRecDepth 100000 in
set_option maxHeartbeats 1000000 in
theorem lebEight (v : Int) (w : World) (hv : -9223372036854775808 ≤ v ∧ v ≤ 9223372036854775807) :
    Calls Try.prog 37 #[.int .i64 v] w fun e w' => e = .returned (.string ⟨(Leb.eight v).toArray⟩) ∧ Below w.heap.size w w' := by
  by_cases h0 : 0 ≤ v ∧ v ≤ 72057594037927935
  case neg =>
    have hp : Leb.eight v = [] := by unfold Leb.eight; rw [if_neg h0]
    have H := Lib.hid hp
    have hm := lebMay v w
    rw [decide_eq_false h0] at hm
    have HM := Lib.hid hm
    clear hp hm h0
    go_enter Try.func37, Try.ntmps37
    go_wp2_with (go_at_call 66; refine HM.out.mono ?_; rintro e w' ⟨rfl, rfl⟩)
    go_ret
    exact ⟨ret_str (by rw [H.out]), Below.refl _ _⟩
  have hm := lebMay v w
  rw [decide_eq_true h0] at hm
  have HM := Lib.hid hm
  obtain ⟨h0, h1⟩ := h0
  obtain ⟨n, rfl⟩ := Int.eq_ofNat_of_zero_le h0
  have hp : Leb.eight n = Leb.eightN n := by unfold Leb.eight; rw [if_pos ⟨h0, h1⟩]; rfl
  have H := Lib.hid hp
  clear hp hm
  go_enter Try.func37, Try.ntmps37
  go_wp2_with (go_at_call 66; refine HM.out.mono ?_; rintro e w' ⟨rfl, rfl⟩)
  go_loopw [8] (fun i wr => ∃ k : Nat, k ≤ 8 ∧ i = .int .i64 k ∧ EightRel n w 87 k wr) (fun i _ => 8 - (intOf i).toNat)
  case atStart => exact ⟨0, by omega, rfl, Blk.new _ _ _, (Below.refl _ _).alloc (Nat.le_refl _) _⟩
  case round =>
    obtain ⟨k, hk, rfl, hrel⟩ := hrel
    clear hv HM
    by_cases hk8 : k < 8
    case neg =>
      obtain rfl : k = 8 := by omega
      have hstr := Blk.str hrel.1 (Leb.eightN n) (eightCells_str n) 8
      have hstr' : (convert 85 9 (.slice (some ⟨w.heap.size, 0, none⟩) 8 8)).run Try.prog wr = .ok (.string ⟨(Leb.eightN n).toArray⟩) wr := hstr
      clear hstr
      go_wp2_with fail
      go_ret
      exact ⟨ret_str (by rw [H.out]), hrel.2⟩
    have hx : ¬ (k : Int) = 8 := by omega
    obtain ⟨u0, hc⟩ := hrel.cell (7 - k) (by omega)
    have hf := hrel.1.free (7 - k)
    have h8 : k = 0 ∨ k = 1 ∨ k = 2 ∨ k = 3 ∨ k = 4 ∨ k = 5 ∨ k = 6 ∨ k = 7 := by omega
    clear hx hk hk8
    rcases h8 with rfl | rfl | rfl | rfl | rfl | rfl | rfl | rfl
    all_goals
      go_wp2_with fail
      refine ⟨⟨_, ?_, ?_, hrel.step _ _ ?_⟩, by simp [intOf]⟩
      · omega
      · rfl
      · first | rfl | (simp [eightCells]; omega)

set_option maxRecDepth 100000 in
set_option maxHeartbeats 1000000 in
theorem refEight (v : Int) (w : World) (hv : -9223372036854775808 ≤ v ∧ v ≤ 9223372036854775807) :
    Calls Try.prog 38 #[.int .i64 v] w fun e w' => e = .returned (.string ⟨(Leb.eight v).toArray⟩) ∧ Below w.heap.size w w' := by
  by_cases h0 : 0 ≤ v ∧ v ≤ 72057594037927935
  case neg =>
    have hp : Leb.eight v = [] := by unfold Leb.eight; rw [if_neg h0]
    have H := Lib.hid hp
    clear hp
    by_cases h1 : 0 ≤ v
    · have h2 : 72057594037927935 < v := by omega
      clear h0
      go_enter Try.func38, Try.ntmps38
      go_wp2
      go_ret
      exact ⟨ret_str (by rw [H.out]), Below.refl _ _⟩
    · clear h0
      go_enter Try.func38, Try.ntmps38
      go_wp2
      go_ret
      exact ⟨ret_str (by rw [H.out]), Below.refl _ _⟩
  obtain ⟨h0, h1⟩ := h0
  obtain ⟨n, rfl⟩ := Int.eq_ofNat_of_zero_le h0
  have hp : Leb.eight n = Leb.eightN n := by unfold Leb.eight; rw [if_pos ⟨h0, h1⟩]; rfl
  have H := Lib.hid hp
  clear hp
  have hmk : ∀ w, (Instr.makeSlice 85 (.int .i64 8) (.int .i64 8)).run Try.prog w = .ok (.slice (some ⟨w.heap.size, 0, none⟩) 8 8) (w.alloc (.cells #[.int .u8 0, .int .u8 0, .int .u8 0, .int .u8 0, .int .u8 0, .int .u8 0, .int .u8 0, .int .u8 0] 5)) := fun _ => by kernel_rfl
  go_enter Try.func38, Try.ntmps38
  go_wp2_with fail
  go_loopw [0, 4] (fun v i wr => ∃ k : Nat, k ≤ 8 ∧ v = .int .i64 (n / 256 ^ k : Nat) ∧ i = .int .i64 (7 - (k : Int)) ∧ EightRel n w 5 k wr) (fun _ i _ => (intOf i + 1).toNat)
  case atStart => exact ⟨0, by omega, by simp, rfl, Blk.new _ _ _, (Below.refl _ _).alloc (Nat.le_refl _) _⟩
  case round =>
    obtain ⟨k, hk, rfl, rfl, hrel⟩ := hrel
    clear hv hmk
    by_cases hk8 : k < 8
    case neg =>
      obtain rfl : k = 8 := by omega
      have hstr := Blk.str hrel.1 (Leb.eightN n) (eightCells_str n) 8
      have hstr' : (convert 85 9 (.slice (some ⟨w.heap.size, 0, none⟩) 8 8)).run Try.prog wr = .ok (.string ⟨(Leb.eightN n).toArray⟩) wr := hstr
      clear hstr
      go_wp2_with fail
      go_ret
      exact ⟨ret_str (by rw [H.out]), hrel.2⟩
    have hx : ¬ (k : Int) = 8 := by omega
    obtain ⟨u0, hc⟩ := hrel.cell (7 - k) (by omega)
    have hf := hrel.1.free (7 - k)
    have h8 : k = 0 ∨ k = 1 ∨ k = 2 ∨ k = 3 ∨ k = 4 ∨ k = 5 ∨ k = 6 ∨ k = 7 := by omega
    clear hx hk hk8
    rcases h8 with rfl | rfl | rfl | rfl | rfl | rfl | rfl | rfl
    all_goals
      go_wp2_with fail
      refine ⟨⟨_, ?_, ?_, ?_, hrel.step _ _ ?_⟩, by simp [intOf]⟩
      · omega
      · first | rfl | go_num | (congr 1; omega)
      · rfl
      · first | rfl | (simp [eightCells]; omega)

theorem byte_or (U b : Nat) (hU : U < 72057594037927936) (hb : b < 256) : bits BinOp.or IntKind.u64 (IntKind.u64.wrap ((U : Int) * 256)) (b : Int) = ((U * 256 + b : Nat) : Int) := by
  have e : IntKind.u64.wrap ((U : Int) * 256) = ((U * 256 : Nat) : Int) := by rw [IntKind.wrap_u64]; omega
  rw [e, u64_or_nat _ _ (by omega) (by omega)]
  congr 1
  have := Nat.shiftLeft_add_eq_or_of_lt (show b < 2 ^ 8 from hb) U
  rw [Nat.shiftLeft_eq] at this
  exact this.symm

theorem pow256 (k : Nat) (hk : k < 8) : 256 ^ k ≤ 72057594037927936 := by
  have h := Nat.pow_le_pow_right (n := 256) (show 0 < 256 by decide) (show k ≤ 7 by omega)
  simpa using h

set_option maxRecDepth 100000 in
set_option maxHeartbeats 1000000 in
theorem lebFromEight (l : List UInt8) (w : World) (hl : l.length ≤ 140737488351232) :
    Calls Try.prog 35 #[.string ⟨l.toArray⟩] w fun e w' => e = .returned (.tuple #[.int .i64 (Leb.fromEight l).1, .int .i64 (Leb.fromEight l).2]) ∧ w = w' := by
  by_cases h0 : l.length < 8
  · have hr : Leb.fromEight l = (0, 2) := by unfold Leb.fromEight; rw [if_pos h0]
    have H := Lib.hid hr
    clear hr
    have h0' : (l.length : Int) < 8 := by omega
    go_enter Try.func35, Try.ntmps35
    go_wp2
    go_ret2
    exact ⟨by rw [H.out]; rfl, rfl⟩
  by_cases h1 : 8 < l.length
  · have hr : Leb.fromEight l = (0, 4) := by unfold Leb.fromEight; rw [if_neg h0, if_pos h1]
    have H := Lib.hid hr
    clear hr
    have h0' : ¬ (l.length : Int) < 8 := by omega
    have h1' : (8 : Int) < (l.length : Int) := by omega
    go_enter Try.func35, Try.ntmps35
    go_wp2
    go_ret2
    exact ⟨by rw [H.out]; rfl, rfl⟩
  have h8 : l.length = 8 := by omega
  have hv8 := Leb.val_big l h8
  have hr : Leb.fromEight l = if (l.headD 0).toNat ≠ 0 then (0, 3) else ((Leb.val l : Int), 0) := by unfold Leb.fromEight; rw [if_neg h0, if_neg h1]
  have H := Lib.hid hr
  have HV := Lib.hid hv8
  have H8 := Lib.hid h8
  have ha : ¬ (l.length : Int) < 8 := by omega
  have hb : ¬ (8 : Int) < (l.length : Int) := by omega
  clear hr hv8 h8 h0 h1
  go_enter Try.func35, Try.ntmps35
  go_wp2_with fail
  go_loop [4, 16] (fun u i => ∃ k U : Nat, k ≤ 8 ∧ u = .int .u64 U ∧ i = .int .i64 k ∧ U = Leb.val (l.take k)) (fun _ i => 8 - (intOf i).toNat)
  case atStart => exact ⟨0, 0, by omega, rfl, rfl, by simp [Leb.val]⟩
  case round =>
    obtain ⟨k, U, hk, rfl, rfl, hU⟩ := hrel
    have HU := Lib.hid hU
    clear hU
    by_cases hk8 : k < 8
    case neg =>
      have hUv : U = Leb.val l := by rw [HU.out, List.take_of_length_le (by rw [H8.out]; omega)]
      have HUv := Lib.hid hUv
      have hx : ¬ ((k : Int) < (l.length : Int)) := by omega
      have hbd := Leb.val_take_lt l k (by omega)
      rw [← HU.out, show k = 8 by omega] at hbd
      have hbd' : (U : Int) < 18446744073709551616 := by omega
      clear hUv hbd
      by_cases hz : 72057594037927935 < U
      · have hz' : (72057594037927935 : Int) < U := by omega
        clear hz
        go_wp2_with fail
        go_ret2
        exact ⟨by rw [H.out, if_pos (HV.out.1 (by rw [← HUv.out]; omega))]; rfl, rfl⟩
      · have hz' : ¬ (72057594037927935 : Int) < U := by omega
        have hz2 : (U : Int) ≤ 72057594037927935 := by omega
        clear hz
        go_wp2_with fail
        go_ret2
        refine ⟨?_, rfl⟩
        rw [H.out, if_neg (fun h => by have := HV.out.2 h; rw [← HUv.out] at this; omega), ← HUv.out]
        rfl
    have hin : k < l.length := by rw [H8.out]; exact hk8
    obtain ⟨b, hb2⟩ : ∃ b, b = l[k].toNat := ⟨_, rfl⟩
    have hbyte : ((ByteArray.mk l.toArray)[k]'(by simpa [ByteArray.size] using hin)).toNat = b := by rw [hb2]; rfl
    have hb1 : b < 256 := by rw [hb2]; exact l[k].toNat_lt
    have HB := Lib.hid hb2
    clear hb2
    have hbd := Leb.val_take_lt l k (by omega)
    rw [← HU.out] at hbd
    have hp := pow256 k hk8
    have hor := byte_or U b (by omega) hb1
    have hi1 : (k : Int) < l.length := by omega
    have HX : Hid (U * 256 + b = Leb.val (l.take (k + 1))) := by
      show U * 256 + b = Leb.val (l.take (k + 1))
      rw [Leb.val_take l k hin, HU.out, HB.out]
    generalize U * 256 + b = X at *
    clear hbd hp
    go_wp2_with fail
    refine ⟨⟨k + 1, X, by omega, rfl, by go_num, HX.out⟩, by simp [intOf]; omega⟩

/-- The document's reader of eight bytes behind k rounds. -/
def FE8 (l : List UInt8) (u i : Value) : Prop := ∃ k U : Nat, 1 ≤ k ∧ k ≤ 8 ∧ u = .int .i64 U ∧ i = .int .i64 k ∧ U = Leb.val (l.take k) ∧ U * 256 + 256 ≤ 256 ^ k

set_option maxRecDepth 100000 in
set_option maxHeartbeats 1000000 in
theorem refFromEight (l : List UInt8) (w : World) (hl : l.length ≤ 140737488351232) :
    Calls Try.prog 36 #[.string ⟨l.toArray⟩] w fun e w' => e = .returned (.tuple #[.int .i64 (Leb.fromEight l).1, .int .i64 (Leb.fromEight l).2]) ∧ w = w' := by
  by_cases h0 : l.length < 8
  · have hr : Leb.fromEight l = (0, 2) := by unfold Leb.fromEight; rw [if_pos h0]
    have H := Lib.hid hr
    clear hr
    have h0' : (l.length : Int) < 8 := by omega
    go_enter Try.func36, Try.ntmps36
    go_wp2
    go_ret2
    exact ⟨by rw [H.out]; rfl, rfl⟩
  by_cases h1 : 8 < l.length
  · have hr : Leb.fromEight l = (0, 4) := by unfold Leb.fromEight; rw [if_neg h0, if_pos h1]
    have H := Lib.hid hr
    clear hr
    have h0' : ¬ (l.length : Int) < 8 := by omega
    have h1' : (8 : Int) < (l.length : Int) := by omega
    go_enter Try.func36, Try.ntmps36
    go_wp2
    go_ret2
    exact ⟨by rw [H.out]; rfl, rfl⟩
  have h8 : l.length = 8 := by omega
  have hr : Leb.fromEight l = if (l.headD 0).toNat ≠ 0 then (0, 3) else ((Leb.val l : Int), 0) := by unfold Leb.fromEight; rw [if_neg h0, if_neg h1]
  have H := Lib.hid hr
  have H8 := Lib.hid h8
  have ha : ¬ (l.length : Int) < 8 := by omega
  have hb : ¬ (8 : Int) < (l.length : Int) := by omega
  have h0l : 0 < l.length := by omega
  obtain ⟨c, hc⟩ : ∃ c, c = l[0].toNat := ⟨_, rfl⟩
  have hbyte : ((ByteArray.mk l.toArray)[0]'(by simpa [ByteArray.size] using h0l)).toNat = c := by rw [hc]; rfl
  have HD : Hid ((l.headD 0).toNat = c) := by
    show (l.headD 0).toNat = c
    rw [hc]
    match l, h0l with
    | x :: t, _ => rfl
  have hi0 : (0 : Int) < l.length := by omega
  clear hr h8 h0 h1
  by_cases hz : c = 0
  case neg =>
    have hz' : ((c : Int) != 0) = true := by simp [hz]
    have hc1 : c < 256 := by rw [hc]; exact l[0].toNat_lt
    have HZ := Lib.hid hz
    clear hz hc
    go_enter Try.func36, Try.ntmps36
    go_wp2_with fail
    go_ret2
    exact ⟨by rw [H.out, if_pos (by rw [HD.out]; exact HZ.out)]; rfl, rfl⟩
  subst hz
  have HC := Lib.hid hc
  clear hc
  go_enter Try.func36, Try.ntmps36
  go_wp2_with fail
  go_loop [4, 5] (FE8 l) (fun _ i => 8 - (intOf i).toNat)
  case atStart => exact ⟨1, 0, by omega, by omega, rfl, rfl, by rw [Leb.val_take l 0 h0l, ← HC.out]; simp [Leb.val], by omega⟩
  case round =>
    obtain ⟨k, U, hk1, hk, rfl, rfl, hU, hbd⟩ := hrel
    have HU := Lib.hid hU
    have HBd := Lib.hid hbd
    clear hU hbd
    by_cases hk8 : k < 8
    case neg =>
      have hUv : U = Leb.val l := by rw [HU.out, List.take_of_length_le (by rw [H8.out]; omega)]
      have HUv := Lib.hid hUv
      have hx : ¬ ((k : Int) < 8) := by omega
      clear hUv
      go_wp2_with fail
      go_ret2
      refine ⟨?_, rfl⟩
      rw [H.out, if_neg (fun h => h HD.out), ← HUv.out]
      rfl
    have hin : k < l.length := by rw [H8.out]; exact hk8
    obtain ⟨b, hb2⟩ : ∃ b, b = l[k].toNat := ⟨_, rfl⟩
    have hbyte2 : ((ByteArray.mk l.toArray)[k]'(by simpa [ByteArray.size] using hin)).toNat = b := by rw [hb2]; rfl
    have hb1 : b < 256 := by rw [hb2]; exact l[k].toNat_lt
    have HB := Lib.hid hb2
    clear hb2
    have hp := pow256 k hk8
    have hbd := HBd.out
    have hU1 : (U : Int) ≤ 281474976710655 := by omega
    have HS : Hid ((U * 256 + b) * 256 + 256 ≤ 256 ^ (k + 1)) := by
      show (U * 256 + b) * 256 + 256 ≤ 256 ^ (k + 1)
      rw [Nat.pow_succ]
      omega
    have hi1 : (k : Int) < l.length := by omega
    have HX : Hid (U * 256 + b = Leb.val (l.take (k + 1))) := by
      show U * 256 + b = Leb.val (l.take (k + 1))
      rw [Leb.val_take l k hin, HU.out, HB.out]
    clear hbd hp
    go_wp2_with fail
    refine ⟨⟨k + 1, U * 256 + b, by omega, by omega, ?_, by go_num, HX.out, HS.out⟩, by simp [intOf]; omega⟩
    go_num
end Go.Proofs.Ytfchejgohegbgaa
