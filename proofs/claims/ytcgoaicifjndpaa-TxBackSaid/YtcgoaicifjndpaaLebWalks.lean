/- The walks of leb and of the document's numbers. -/
import Derived.Test.YtcgoaicifjndpaaM21
import Derived.Test.YtcgoaicifjndpaaM1
namespace Go.Proofs.Ytcgoaicifjndpaa
open Go.RowKit
set_option linter.unusedVariables false

theorem u8_or_128 (u : Nat) : bits .or .u8 ((u : Int) % 256) 128 = ((u % 128 + 128 : Nat) : Int) := by
  have h : (u : Int) % 256 = ((u % 256 : Nat) : Int) := by omega
  rw [h]
  have k : ∀ x < 256, bits .or .u8 ((x : Nat) : Int) 128 = ((x % 128 + 128 : Nat) : Int) := by decide +kernel
  rw [k _ (by omega)]
  omega

set_option maxHeartbeats 400000 in
theorem lebMay (v : Int) (w : World) : Calls Try.prog 194 #[.int .i64 v] w fun e w' => e = .returned (.bool (decide (0 ≤ v ∧ v ≤ 72057594037927935))) ∧ w = w' := by
  by_cases h0 : 0 ≤ v
  · by_cases h1 : v ≤ 72057594037927935
    · go_enter Try.func194, Try.ntmps194
      go_wp2
      go_ret
      exact ⟨ret_bool (by simp [h0, h1]), rfl⟩
    · go_enter Try.func194, Try.ntmps194
      go_wp2
      go_ret
      exact ⟨ret_bool (by simp; omega), rfl⟩
  · go_enter Try.func194, Try.ntmps194
    go_wp2
    go_ret
    exact ⟨ret_bool (by simp; omega), rfl⟩

/-- A loop of Put: what was emitted, and what is left. -/
def PutRel (k : IntKind) (n : Nat) (w : World) (v u : Value) (wr : World) : Prop :=
  ∃ (f m : Nat) (acc : List UInt8), m < 128 ^ (f + 1) ∧ acc ++ Leb.putF f m = Leb.putF 7 n ∧ acc.length + f = 7 ∧ u = .int k m ∧ OwnB wr w.heap.size v acc ∧ Below w.heap.size w wr

set_option maxRecDepth 100000 in
set_option maxHeartbeats 400000 in
theorem lebPut (v : Int) (w : World) (hv : -9223372036854775808 ≤ v ∧ v ≤ 9223372036854775807) :
    Calls Try.prog 167 #[.int .i64 v] w fun e w' => e = .returned (.string ⟨(Leb.put v).toArray⟩) ∧ Below w.heap.size w w' := by
  by_cases h0 : 0 ≤ v
  case neg =>
    have hp : Leb.put v = [] := by unfold Leb.put; rw [if_neg (by omega)]
    have H := Lib.hid hp
    clear hp
    go_enter Try.func167, Try.ntmps167
    go_wp2
    go_ret
    exact ⟨ret_str (by rw [H.out]), Below.refl _ _⟩
  by_cases h1 : v ≤ 72057594037927935
  case neg =>
    have hp : Leb.put v = [] := by unfold Leb.put; rw [if_neg (by omega)]
    have H := Lib.hid hp
    clear hp
    go_enter Try.func167, Try.ntmps167
    go_wp2
    go_ret
    exact ⟨ret_str (by rw [H.out]), Below.refl _ _⟩
  obtain ⟨n, rfl⟩ := Int.eq_ofNat_of_zero_le h0
  have hp : Leb.put n = Leb.putF 7 n := by unfold Leb.put; rw [if_pos ⟨h0, h1⟩]; rfl
  have H := Lib.hid hp
  clear hp
  have hm := lebMay (n : Int) w
  rw [decide_eq_true (show 0 ≤ (n : Int) ∧ (n : Int) ≤ 72057594037927935 from ⟨h0, h1⟩)] at hm
  have HM := Lib.hid hm
  clear hm
  go_enter Try.func167, Try.ntmps167
  go_wp2_with (go_at_call 194; refine HM.out.mono ?_; rintro e w' ⟨rfl, rfl⟩)
  go_loopw [3, 4] (PutRel .u64 n w) (fun _ u _ => (intOf u).toNat)
  case atStart => exact ⟨7, n, [], by simp; omega, rfl, rfl, rfl, OwnB.nil _ _, Below.refl _ _⟩
  case round =>
    obtain ⟨f, m, acc, hf, hacc, hlen, rfl, hown, hbr⟩ := hrel
    have HA := Lib.hid hacc
    have HF := Lib.hid hf
    have HL := Lib.hid hlen
    clear hacc hf hlen hv h0 h1 HM
    have hbs := hbr.size
    by_cases hs : m < 128
    · go_wp2_with (first
        | (at_builtin; refine wpList_push_byte rfl _ _ rfl w.heap.size _ acc rfl (hown.alloc _) _ _ rfl (cell_new0 _ _ _) (UInt8.ofNat m) (by rw [Leb.toNat_ofNat (by omega)]) (by have := HL.out; omega) (by simp; omega) ?_))
      intro v' w1 hown' hz hgrow
      have hstr := hown'.str
      go_wp2_with fail
      go_ret
      refine ⟨ret_str ?_, hbr.trans (((Below.refl _ _).alloc hbs _).trans hgrow)⟩
      rw [H.out, ← HA.out]
      cases f <;> simp [Leb.putF, hs]
    · obtain ⟨c, hc⟩ : ∃ c : UInt8, Hid (c = UInt8.ofNat (m % 128 + 128)) := ⟨_, rfl⟩
      go_wp2_with (first
        | (at_builtin; refine wpList_push_byte rfl _ _ rfl w.heap.size _ acc rfl (hown.alloc _) _ _ rfl (cell_new0 _ _ _) c (by rw [u8_or_128, hc.out, Leb.toNat_ofNat (by omega)]) (by have := HL.out; omega) (by simp; omega) ?_))
      intro v' w1 hown' hz hgrow
      go_wp2_with fail
      refine ⟨?_, by simp [intOf]; omega⟩
      match f, HF.out, HA.out, HL.out with
      | 0, hf, _, _ => omega
      | f + 1, hf, ha, hl =>
        rw [Leb.putF, if_neg hs] at ha
        exact ⟨f, m / 128, acc ++ [c], by rw [Nat.pow_succ] at hf; omega, by rw [← ha, hc.out]; simp, by simp; omega, by go_num, hown', hbr.trans (((Below.refl _ _).alloc hbs _).trans hgrow)⟩


/-- A reader's round: k groups behind it say A. -/
def NextRel (l : List UInt8) (p k A : Nat) : Prop := Leb.fin l p k A = Leb.next l p

theorem pow_le (k : Nat) (hk : k ≤ 8) : 1 ≤ 128 ^ k ∧ 128 ^ k ≤ 72057594037927936 := by
  have h := Nat.pow_le_pow_right (n := 128) (show 0 < 128 by decide) hk
  have h1 := Nat.pow_pos (n := k) (show 0 < 128 by decide)
  exact ⟨h1, by simpa using h⟩

theorem pow_le' (k : Nat) (hk : k < 8) : 128 ^ k ≤ 562949953421312 := by
  have h := Nat.pow_le_pow_right (n := 128) (show 0 < 128 by decide) (show k ≤ 7 by omega)
  simpa using h

set_option maxRecDepth 100000 in
set_option maxHeartbeats 1000000 in
theorem refNext (l : List UInt8) (at_ : Int) (w : World) (hl : l.length ≤ 140737488351232) (ha : -9223372036854775808 ≤ at_ ∧ at_ ≤ 9223372036854775807) :
    Calls Try.prog 165 #[.string ⟨l.toArray⟩, .int .i64 at_] w fun e w' =>
      e = .returned (.tuple #[.int .i64 (Leb.next l at_).1, .int .i64 (Leb.next l at_).2.1, .int .i64 (Leb.next l at_).2.2]) ∧ w = w' := by
  by_cases h0 : at_ < 0
  · have hr : Leb.next l at_ = (0, 0, 1) := by unfold Leb.next; rw [if_pos (by omega)]
    have H := Lib.hid hr
    clear hr
    go_enter Try.func165, Try.ntmps165
    go_wp2
    go_ret3
    exact ⟨by rw [H.out]; rfl, rfl⟩
  by_cases h1 : (l.length : Int) < at_
  · have hr : Leb.next l at_ = (0, 0, 1) := by unfold Leb.next; rw [if_pos (by omega)]
    have H := Lib.hid hr
    clear hr
    go_enter Try.func165, Try.ntmps165
    go_wp2
    go_ret3
    exact ⟨by rw [H.out]; rfl, rfl⟩
  obtain ⟨p, rfl⟩ := Int.eq_ofNat_of_zero_le (show 0 ≤ at_ by omega)
  have hst := Leb.fin_start l p (by omega)
  have HS := Lib.hid hst
  clear hst
  go_enter Try.func165, Try.ntmps165
  go_wp2_with fail
  go_loop [1, 7, 8, 9] (fun a v u i => ∃ k A U : Nat, k ≤ 8 ∧ a = .int .i64 (p + k : Nat) ∧ v = .int .i64 A ∧ u = .int .i64 U ∧ i = .int .i64 k ∧ U = 128 ^ k ∧ A < U ∧ NextRel l p k A) (fun _ _ _ i => 8 - (intOf i).toNat)
  case atStart => exact ⟨0, 0, 1, by omega, rfl, rfl, rfl, rfl, rfl, by omega, HS.out⟩
  case round =>
    obtain ⟨k, A, U, hk, rfl, rfl, rfl, rfl, hU, hA, hrel⟩ := hrel
    have hpw := pow_le k hk
    rw [← hU] at hpw
    have HU := Lib.hid hU
    have HR := Lib.hid hrel
    clear hU hrel HS
    obtain ⟨hU1, hU2⟩ := hpw
    have h0' : (p : Int) ≤ l.length := by omega
    clear ha h0 h1
    by_cases hk8 : k < 8
    case neg =>
      have H : Hid (Leb.next l p = (0, 0, 4)) := by
        have := HR.out
        unfold NextRel at this
        rw [← this, show k = 8 by omega]
        exact Leb.fin_long _ _ _
      have hx : ¬ ((k : Int) < 8) := by omega
      go_wp2_with fail
      go_ret3
      exact ⟨by rw [H.out]; rfl, rfl⟩
    have hU3 := pow_le' k hk8
    rw [← HU.out] at hU3
    by_cases hin : p + k < l.length
    case neg =>
      have H : Hid (Leb.next l p = (0, 0, 2)) := by
        have := HR.out
        unfold NextRel at this
        rw [← this]
        exact Leb.fin_short _ _ _ _ hk8 (by omega)
      have hx : ¬ ((p : Int) + k < l.length) := by omega
      go_wp2_with fail
      go_ret3
      exact ⟨by rw [H.out]; rfl, rfl⟩
    obtain ⟨b, hb⟩ : ∃ b, b = l[p + k].toNat := ⟨_, rfl⟩
    have hbyte : ((ByteArray.mk l.toArray)[p + k]'(by simpa [ByteArray.size] using hin)).toNat = b := by rw [hb]; rfl
    have hb1 : b < 256 := by rw [hb]; exact l[p + k].toNat_lt
    have HB := Lib.hid hb
    clear hb
    have hm0 : 0 ≤ (b : Int) % 128 * (U : Int) := Int.mul_nonneg (by omega) (by omega)
    have hm1 : (b : Int) % 128 * (U : Int) ≤ 127 * (U : Int) := Int.mul_le_mul_of_nonneg_right (by omega) (by omega)
    have hi1 : (p : Int) + k < l.length := by omega
    by_cases hc : b < 128
    case pos =>
      by_cases hz : b = 0 ∧ 0 < k
      case pos =>
        have H : Hid (Leb.next l p = (0, 0, 3)) := by
          have := HR.out
          unfold NextRel at this
          rw [← this]
          exact Leb.fin_form _ _ _ _ hk8 hin (by rw [← HB.out]; exact hz.1) hz.2
        obtain ⟨rfl, hz2⟩ := hz
        clear hm0 hm1
        go_wp2_with fail
        go_ret3
        exact ⟨by rw [H.out]; rfl, rfl⟩
      case neg =>
        have H : Hid (Leb.next l p = (((A + 128 ^ k * b : Nat) : Int), ((p + k + 1 : Nat) : Int), 0)) := by
          have := HR.out
          unfold NextRel at this
          rw [← this, HB.out]
          exact Leb.fin_done _ _ _ _ hk8 hin (by rw [← HB.out]; exact hc) (by rw [← HB.out]; omega)
        have hval : Hid ((A : Int) + (b : Int) % 128 * (U : Int) = ((A + 128 ^ k * b : Nat) : Int)) := by
          show (A : Int) + (b : Int) % 128 * (U : Int) = ((A + 128 ^ k * b : Nat) : Int)
          rw [← HU.out, show (b : Int) % 128 = b by omega, Int.natCast_add, Int.natCast_mul, Int.mul_comm]
        by_cases hz1 : b = 0
        · have hz3 : ¬ ((0 : Int) < k) := by omega
          have hz2 : ((b : Int) == 0) = true := by simp [hz1]
          clear hz hz1
          go_wp2_with fail
          go_ret3
          refine ⟨?_, rfl⟩
          rw [H.out, ← hval.out]
          rfl
        · have hz2 : ((b : Int) == 0) = false := by simp; omega
          clear hz hz1
          go_wp2_with fail
          go_ret3
          refine ⟨?_, rfl⟩
          rw [H.out, ← hval.out]
          rfl
    case neg =>
      have hnx := Leb.fin_more l p k A hk8 hin (by rw [← HB.out]; omega)
      rw [← HB.out, ← HU.out] at hnx
      have HN := Lib.hid hnx
      clear hnx
      have hval : Hid ((A : Int) + (b : Int) % 128 * (U : Int) = ((A + U * (b - 128) : Nat) : Int)) := by
        show (A : Int) + (b : Int) % 128 * (U : Int) = ((A + U * (b - 128) : Nat) : Int)
        rw [show (b : Int) % 128 = ((b - 128 : Nat) : Int) by omega, Int.natCast_add, Int.natCast_mul, Int.mul_comm]
      have hlt : Hid (A + U * (b - 128) < U * 128) := by
        have : U * (b - 128) ≤ U * 127 := Nat.mul_le_mul_left _ (by omega)
        show A + U * (b - 128) < U * 128
        omega
      go_wp2_with fail
      refine ⟨⟨k + 1, A + U * (b - 128), U * 128, by omega, by go_num, by rw [hval.out], by go_num, by go_num, by rw [HU.out, Nat.pow_succ], hlt.out, ?_⟩, by simp [intOf]; omega⟩
      unfold NextRel
      rw [HN.out]
      exact HR.out

theorem group_or (A b k : Nat) (hk : k < 8) (hA : A < 128 ^ k) (hb : b < 256) :
    bits BinOp.or IntKind.u64 (A : Int) (IntKind.u64.wrap (IntKind.u64.wrap (bits BinOp.andNot IntKind.u8 (b : Int) 128) * 2 ^ (7 * k))) = ((A + 128 ^ k * (b % 128) : Nat) : Int) := by
  have h1 : ∀ x < 256, bits .andNot .u8 ((x : Nat) : Int) 128 = ((x % 128 : Nat) : Int) := by decide +kernel
  have hp : (2 : Nat) ^ (7 * k) = 128 ^ k := by rw [Nat.pow_mul]
  have hU := pow_le' k hk
  have hle : b % 128 * 128 ^ k ≤ 127 * 562949953421312 := Nat.mul_le_mul (by omega) hU
  have hpi : ((2 : Int) ^ (7 * k)) = ((128 ^ k : Nat) : Int) := by rw [← hp]; simp
  have e1 : IntKind.u64.wrap ((b % 128 : Nat) : Int) = ((b % 128 : Nat) : Int) := by rw [IntKind.wrap_u64]; omega
  have e2 : IntKind.u64.wrap ((b % 128 * 128 ^ k : Nat) : Int) = ((b % 128 * 128 ^ k : Nat) : Int) := by rw [IntKind.wrap_u64]; omega
  rw [h1 b hb, hpi, e1, ← Int.natCast_mul, e2]
  rw [u64_or_nat A _ (by omega) (by omega)]
  congr 1
  rw [Nat.or_comm, ← hp, ← Nat.shiftLeft_eq, ← Nat.shiftLeft_add_eq_or_of_lt (by rw [hp]; exact hA), Nat.shiftLeft_eq]
  rw [Nat.add_comm, Nat.mul_comm]

set_option maxRecDepth 100000 in
set_option maxHeartbeats 1000000 in
theorem lebNext (l : List UInt8) (at_ : Int) (w : World) (hl : l.length ≤ 140737488351232) (ha : -9223372036854775808 ≤ at_ ∧ at_ ≤ 9223372036854775807) :
    Calls Try.prog 112 #[.string ⟨l.toArray⟩, .int .i64 at_] w fun e w' =>
      e = .returned (.tuple #[.int .i64 (Leb.next l at_).1, .int .i64 (Leb.next l at_).2.1, .int .i64 (Leb.next l at_).2.2]) ∧ w = w' := by
  by_cases h0 : at_ < 0
  · have hr : Leb.next l at_ = (0, 0, 1) := by unfold Leb.next; rw [if_pos (by omega)]
    have H := Lib.hid hr
    clear hr
    go_enter Try.func112, Try.ntmps112
    go_wp2
    go_ret3
    exact ⟨by rw [H.out]; rfl, rfl⟩
  by_cases h1 : (l.length : Int) < at_
  · have hr : Leb.next l at_ = (0, 0, 1) := by unfold Leb.next; rw [if_pos (by omega)]
    have H := Lib.hid hr
    clear hr
    go_enter Try.func112, Try.ntmps112
    go_wp2
    go_ret3
    exact ⟨by rw [H.out]; rfl, rfl⟩
  obtain ⟨p, rfl⟩ := Int.eq_ofNat_of_zero_le (show 0 ≤ at_ by omega)
  have hst := Leb.fin_start l p (by omega)
  have HS := Lib.hid hst
  clear hst
  go_enter Try.func112, Try.ntmps112
  go_wp2_with fail
  go_loop [7, 18] (fun v i => ∃ k A : Nat, k ≤ 8 ∧ v = .int .u64 A ∧ i = .int .i64 k ∧ A < 128 ^ k ∧ NextRel l p k A) (fun _ i => 8 - (intOf i).toNat)
  case atStart => exact ⟨0, 0, by omega, rfl, rfl, by simp, HS.out⟩
  case round =>
    obtain ⟨k, A, hk, rfl, rfl, hA, hrel⟩ := hrel
    have HR := Lib.hid hrel
    have HA := Lib.hid hA
    clear hrel HS hA
    have h0' : (p : Int) ≤ l.length := by omega
    clear ha h0 h1
    by_cases hk8 : k < 8
    case neg =>
      have H : Hid (Leb.next l p = (0, 0, 4)) := by
        have := HR.out
        unfold NextRel at this
        rw [← this, show k = 8 by omega]
        exact Leb.fin_long _ _ _
      have hx : ¬ ((k : Int) < 8) := by omega
      go_wp2_with fail
      go_ret3
      exact ⟨by rw [H.out]; rfl, rfl⟩
    by_cases hin : p + k < l.length
    case neg =>
      have H : Hid (Leb.next l p = (0, 0, 2)) := by
        have := HR.out
        unfold NextRel at this
        rw [← this]
        exact Leb.fin_short _ _ _ _ hk8 (by omega)
      have hx : ¬ ((p : Int) + k < l.length) := by omega
      go_wp2_with fail
      go_ret3
      exact ⟨by rw [H.out]; rfl, rfl⟩
    obtain ⟨b, hb⟩ : ∃ b, b = l[p + k].toNat := ⟨_, rfl⟩
    have hbyte : ((ByteArray.mk l.toArray)[p + k]'(by simpa [ByteArray.size] using hin)).toNat = b := by rw [hb]; rfl
    have hb1 : b < 256 := by rw [hb]; exact l[p + k].toNat_lt
    have HB := Lib.hid hb
    clear hb
    have hi1 : (p : Int) + k < l.length := by omega
    by_cases hc : b < 128
    case pos =>
      by_cases hz : b = 0 ∧ 0 < k
      case pos =>
        have H : Hid (Leb.next l p = (0, 0, 3)) := by
          have := HR.out
          unfold NextRel at this
          rw [← this]
          exact Leb.fin_form _ _ _ _ hk8 hin (by rw [← HB.out]; exact hz.1) hz.2
        obtain ⟨rfl, hz2⟩ := hz
        go_wp2_with fail
        go_ret3
        exact ⟨by rw [H.out]; rfl, rfl⟩
      case neg =>
        have H : Hid (Leb.next l p = (((A + 128 ^ k * b : Nat) : Int), ((p + k + 1 : Nat) : Int), 0)) := by
          have := HR.out
          unfold NextRel at this
          rw [← this, HB.out]
          exact Leb.fin_done _ _ _ _ hk8 hin (by rw [← HB.out]; exact hc) (by rw [← HB.out]; omega)
        have hor := group_or A b k hk8 HA.out hb1
        rw [show b % 128 = b by omega] at hor
        have hub := pow_le (k + 1) (by omega)
        have hnl : A + 128 ^ k * b < 128 ^ (k + 1) := by
          have h1 := HA.out
          have h2 : 128 ^ k * b ≤ 128 ^ k * 127 := Nat.mul_le_mul_left _ (by omega)
          rw [Nat.pow_succ]
          omega
        generalize hX : A + 128 ^ k * b = X at *
        have hX1 : (X : Int) ≤ 72057594037927935 := by omega
        clear hub hnl hX
        by_cases hz1 : b = 0
        · have hz3 : ¬ ((0 : Int) < k) := by omega
          have hz2 : ((b : Int) == 0) = true := by simp [hz1]
          clear hz hz1
          go_wp2_with fail
          go_ret3
          refine ⟨?_, rfl⟩
          rw [H.out]
          rfl
        · have hz2 : ((b : Int) == 0) = false := by simp; omega
          clear hz hz1
          go_wp2_with fail
          go_ret3
          refine ⟨?_, rfl⟩
          rw [H.out]
          rfl
    case neg =>
      have hnx := Leb.fin_more l p k A hk8 hin (by rw [← HB.out]; omega)
      rw [← HB.out] at hnx
      have hor := group_or A b k hk8 HA.out hb1
      rw [show b % 128 = b - 128 by omega] at hor
      have hnl : A + 128 ^ k * (b - 128) < 128 ^ (k + 1) := by
        have h1 := HA.out
        have h2 : 128 ^ k * (b - 128) ≤ 128 ^ k * 127 := Nat.mul_le_mul_left _ (by omega)
        rw [Nat.pow_succ]
        omega
      generalize hX : A + 128 ^ k * (b - 128) = X at *
      have HN := Lib.hid hnx
      have HL := Lib.hid hnl
      clear hnx hnl hX
      go_wp2_with fail
      refine ⟨⟨k + 1, X, by omega, rfl, by go_num, HL.out, ?_⟩, by simp [intOf]; omega⟩
      unfold NextRel
      rw [HN.out]
      exact HR.out
end Go.Proofs.Ytcgoaicifjndpaa
