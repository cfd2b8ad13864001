/- The walks of leb and of the document's numbers. -/
import Derived.Test.YthomoliklfmnkaaM17
import Derived.Test.YthomoliklfmnkaaM1
namespace Go.Proofs.Ythomoliklfmnkaa
open Go.RowKit
set_option linter.unusedVariables false

theorem u8_or_128 (u : Nat) : bits .or .u8 ((u : Int) % 256) 128 = ((u % 128 + 128 : Nat) : Int) := by
  have h : (u : Int) % 256 = ((u % 256 : Nat) : Int) := by omega
  rw [h]
  have k : ∀ x < 256, bits .or .u8 ((x : Nat) : Int) 128 = ((x % 128 + 128 : Nat) : Int) := by decide +kernel
  rw [k _ (by omega)]
  omega

set_option maxHeartbeats 400000 in
theorem lebMay (v : Int) (w : World) : Calls Try.prog 78 #[.int .i64 v] w fun e w' => e = .returned (.bool (decide (0 ≤ v ∧ v ≤ 72057594037927935))) ∧ w = w' := by
  by_cases h0 : 0 ≤ v
  · by_cases h1 : v ≤ 72057594037927935
    · go_enter Try.func78, Try.ntmps78
      go_wp2
      go_ret
      exact ⟨ret_bool (by simp [h0, h1]), rfl⟩
    · go_enter Try.func78, Try.ntmps78
      go_wp2
      go_ret
      exact ⟨ret_bool (by simp; omega), rfl⟩
  · go_enter Try.func78, Try.ntmps78
    go_wp2
    go_ret
    exact ⟨ret_bool (by simp; omega), rfl⟩

/-- A loop of Put: what was emitted, and what is left. -/
def PutRel (k : IntKind) (n : Nat) (w : World) (v u : Value) (wr : World) : Prop :=
  ∃ (f m : Nat) (acc : List UInt8), m < 128 ^ (f + 1) ∧ acc ++ Leb.putF f m = Leb.putF 7 n ∧ acc.length + f = 7 ∧ u = .int k m ∧ OwnB wr w.heap.size v acc ∧ Below w.heap.size w wr

set_option maxRecDepth 100000 in
set_option maxHeartbeats 400000 in
theorem lebPut (v : Int) (w : World) (hv : -9223372036854775808 ≤ v ∧ v ≤ 9223372036854775807) :
    Calls Try.prog 66 #[.int .i64 v] w fun e w' => e = .returned (.string ⟨(Leb.put v).toArray⟩) ∧ Below w.heap.size w w' := by
  by_cases h0 : 0 ≤ v
  case neg =>
    have hp : Leb.put v = [] := by unfold Leb.put; rw [if_neg (by omega)]
    have H := Lib.hid hp
    clear hp
    go_enter Try.func66, Try.ntmps66
    go_wp2
    go_ret
    exact ⟨ret_str (by rw [H.out]), Below.refl _ _⟩
  by_cases h1 : v ≤ 72057594037927935
  case neg =>
    have hp : Leb.put v = [] := by unfold Leb.put; rw [if_neg (by omega)]
    have H := Lib.hid hp
    clear hp
    go_enter Try.func66, Try.ntmps66
    go_wp2
    go_ret
    exact ⟨ret_str (by rw [H.out]), Below.refl _ _⟩
  obtain ⟨n, rfl⟩ := Int.eq_ofNat_of_zero_le h0
  have hp : Leb.put n = Leb.putF 7 n := by unfold Leb.put; rw [if_pos ⟨h0, h1⟩]; rfl
  have H := Lib.hid hp
  clear hp
  have hm := lebMay (n : Int) w
  rw [decide_eq_true (show 0 ≤ (n : Int) ∧ (n : Int) ≤ 72057594037927935 from ⟨h0, h1⟩)] at hm
  have HM := Lib.hid hm
  clear hm
  go_enter Try.func66, Try.ntmps66
  go_wp2_with (go_at_call 78; refine HM.out.mono ?_; rintro e w' ⟨rfl, rfl⟩)
  go_loopw [3, 4] (PutRel .u64 n w) (fun _ u _ => (intOf u).toNat)
  case atStart => exact ⟨7, n, [], by simp; omega, rfl, rfl, rfl, OwnB.nil _ _, Below.refl _ _⟩
  case round =>
    obtain ⟨f, m, acc, hf, hacc, hlen, rfl, hown, hbr⟩ := hrel
    have HA := Lib.hid hacc
    have HF := Lib.hid hf
    have HL := Lib.hid hlen
    clear hacc hf hlen hv h0 h1 HM
    have hbs := hbr.size
    by_cases hs : m < 128
    · go_wp2_with (first
        | (at_builtin; refine wpList_push_byte rfl _ _ rfl w.heap.size _ acc rfl (hown.alloc _) _ _ rfl (cell_new0 _ _ _) (UInt8.ofNat m) (by rw [Leb.toNat_ofNat (by omega)]) (by have := HL.out; omega) (by simp; omega) ?_))
      intro v' w1 hown' hz hgrow
      have hstr := hown'.str
      go_wp2_with fail
      go_ret
      refine ⟨ret_str ?_, hbr.trans (((Below.refl _ _).alloc hbs _).trans hgrow)⟩
      rw [H.out, ← HA.out]
      cases f <;> simp [Leb.putF, hs]
    · obtain ⟨c, hc⟩ : ∃ c : UInt8, Hid (c = UInt8.ofNat (m % 128 + 128)) := ⟨_, rfl⟩
      go_wp2_with (first
        | (at_builtin; refine wpList_push_byte rfl _ _ rfl w.heap.size _ acc rfl (hown.alloc _) _ _ rfl (cell_new0 _ _ _) c (by rw [u8_or_128, hc.out, Leb.toNat_ofNat (by omega)]) (by have := HL.out; omega) (by simp; omega) ?_))
      intro v' w1 hown' hz hgrow
      go_wp2_with fail
      refine ⟨?_, by simp [intOf]; omega⟩
      match f, HF.out, HA.out, HL.out with
      | 0, hf, _, _ => omega
      | f + 1, hf, ha, hl =>
        rw [Leb.putF, if_neg hs] at ha
        exact ⟨f, m / 128, acc ++ [c], by rw [Nat.pow_succ] at hf; omega, by rw [← ha, hc.out]; simp, by simp; omega, by go_num, hown', hbr.trans (((Below.refl _ _).alloc hbs _).trans hgrow)⟩







end Go.Proofs.Ythomoliklfmnkaa
