/- The walks of the five laws on numbers. -/
import Derived.Test.YtfchejgohegbgaaLebEight
import Derived.Deep.RegionHeld3
namespace Go.Proofs.Ytfchejgohegbgaa
open Go.RowKit
set_option linter.unusedVariables false

theorem lebNextB (s : ByteArray) (at_ : Int) (w : World) (hl : s.size ≤ 140737488351232) (ha : -9223372036854775808 ≤ at_ ∧ at_ ≤ 9223372036854775807) :
    Calls Try.prog 30 #[.string s, .int .i64 at_] w fun e w' =>
      e = .returned (.tuple #[.int .i64 (Leb.next s.data.toList at_).1, .int .i64 (Leb.next s.data.toList at_).2.1, .int .i64 (Leb.next s.data.toList at_).2.2]) ∧ w = w' := by
  obtain ⟨l, rfl⟩ := str_list s
  exact lebNext l at_ w hl ha

theorem chain {w w1 w2 : World} (h1 : Below w.heap.size w w1) (h2 : Below w1.heap.size w1 w2) : Below w.heap.size w w2 := h1.trans (h2.mono h1.size)

set_option maxRecDepth 100000 in
set_option maxHeartbeats 400000 in
theorem lebFirst (w : World) : Calls Try.prog 29 #[] w fun e w' => e = .returned (.bool true) ∧ Below w.heap.size w w' := by
  have hn := lebNext [172, 2] 0 w (by decide) (by decide)
  rw [show Leb.next [172, 2] 0 = (300, 2, 0) from by decide] at hn
  have hp : ∀ W, _ := fun W => lebPut 300 W (by decide)
  rw [show Leb.put 300 = [172, 2] from by decide] at hp
  have hs : ∀ W, _ := fun W => lebSize 300 W (by decide)
  rw [show Leb.put 300 = [172, 2] from by decide] at hs
  have HN := Lib.hid hn
  have HP := Lib.hid hp
  have HS := Lib.hid hs
  clear hn hp hs
  go_enter Try.func29, Try.ntmps29
  go_wp2_with (first
    | (go_at_call 30; refine HN.out.mono ?_; rintro e w1 ⟨rfl, rfl⟩)
    | (go_at_call 32; refine (HP.out _).mono ?_; rintro e w1 ⟨rfl, hb1⟩)
    | (go_at_call 34; refine (HS.out _).mono ?_; rintro e w2 ⟨rfl, hb2⟩))
  go_ret
  exact ⟨rfl, chain hb1 hb2⟩

set_option maxRecDepth 100000 in
set_option maxHeartbeats 1000000 in
theorem lebTells_walk (w : World) (v : Int) (hv : -9223372036854775808 ≤ v ∧ v ≤ 9223372036854775807) (s : ByteArray) (hs : s.size ≤ maxLen) (p : Int) (hp : -9223372036854775808 ≤ p ∧ p ≤ 9223372036854775807) :
    Calls Try.prog 7 #[.int .i64 v, .string s, .int .i64 p] w fun e w' => e = .returned (.bool true) ∧ Below w.heap.size w w' := by
  obtain ⟨l, rfl⟩ := str_list s
  have hl : l.length ≤ 9223372036854775807 := hs
  clear hs
  obtain ⟨hv1, hv2⟩ := hv
  obtain ⟨hp1, hp2⟩ := hp
  by_cases h3 : l.length ≤ 300
  case neg =>
    have h3' : (300 : Int) < l.length := by omega
    have hb := Below.refl w.heap.size w
    go_enter Try.func7, Try.ntmps7
    go_wp2_with (first
      | (go_at_call 29; refine (lebFirst _).mono ?_; rintro e w2 ⟨rfl, hx⟩; replace hb := chain hb hx; clear hx))
    go_ret
    exact ⟨rfl, hb⟩
  have h3' : ¬ (300 : Int) < l.length := by omega
  have HN : Hid (∀ W, _) := fun W => lebNext l p W (by omega) ⟨hp1, hp2⟩
  have HR : Hid (∀ W, _) := fun W => refNext l p W (by omega) ⟨hp1, hp2⟩
  generalize Leb.next l p = r at *
  obtain ⟨r1, r2, r3⟩ := r
  have HP : Hid (∀ W, _) := fun W => lebPut v W ⟨hv1, hv2⟩
  have HQ : Hid (∀ W, _) := fun W => refPut v W ⟨hv1, hv2⟩
  have HS : Hid (∀ W, _) := fun W => lebSize v W ⟨hv1, hv2⟩
  generalize Leb.put v = q at *
  have hb := Below.refl w.heap.size w
  go_enter Try.func7, Try.ntmps7
  go_wp2_with (first
    | (go_at_call 29; refine (lebFirst _).mono ?_; rintro e w2 ⟨rfl, hx⟩; replace hb := chain hb hx; clear hx)
    | (go_at_call 30; refine (HN.out _).mono ?_; rintro e w2 ⟨rfl, rfl⟩)
    | (go_at_call 31; refine (HR.out _).mono ?_; rintro e w2 ⟨rfl, rfl⟩)
    | (go_at_call 32; refine (HP.out _).mono ?_; rintro e w2 ⟨rfl, hx⟩; replace hb := chain hb hx; clear hx)
    | (go_at_call 33; refine (HQ.out _).mono ?_; rintro e w2 ⟨rfl, hx⟩; replace hb := chain hb hx; clear hx)
    | (go_at_call 34; refine (HS.out _).mono ?_; rintro e w2 ⟨rfl, hx⟩; replace hb := chain hb hx; clear hx))
  go_ret
  exact ⟨ret_bool (by simp), hb⟩

set_option maxRecDepth 100000 in
set_option maxHeartbeats 1000000 in
theorem lebBack_walk (w : World) (a : ByteArray) (ha : a.size ≤ maxLen) (v : Int) (hv : -9223372036854775808 ≤ v ∧ v ≤ 9223372036854775807) (b : ByteArray) (hbb : b.size ≤ maxLen) :
    Calls Try.prog 8 #[.string a, .int .i64 v, .string b] w fun e w' => e = .returned (.bool true) ∧ Below w.heap.size w w' := by
  obtain ⟨l, rfl⟩ := str_list a
  obtain ⟨m, rfl⟩ := str_list b
  have hl : l.length ≤ 9223372036854775807 := ha
  have hm : m.length ≤ 9223372036854775807 := hbb
  clear ha hbb
  obtain ⟨hv1, hv2⟩ := hv
  have bail : (100 < l.length ∨ 100 < m.length ∨ v < 0 ∨ 72057594037927935 < v) → Calls Try.prog 8 #[.string ⟨l.toArray⟩, .int .i64 v, .string ⟨m.toArray⟩] w fun e w' => e = .returned (.bool true) ∧ Below w.heap.size w w' := by
    intro h
    by_cases h1 : (100 : Int) < l.length
    · clear h
      have hb := Below.refl w.heap.size w
      go_enter Try.func8, Try.ntmps8
      go_wp2_with (first
        | (go_at_call 29; refine (lebFirst _).mono ?_; rintro e w2 ⟨rfl, hx⟩; replace hb := chain hb hx; clear hx))
      go_ret
      exact ⟨rfl, hb⟩
    by_cases h2 : (100 : Int) < m.length
    · clear h
      have hb := Below.refl w.heap.size w
      go_enter Try.func8, Try.ntmps8
      go_wp2_with (first
        | (go_at_call 29; refine (lebFirst _).mono ?_; rintro e w2 ⟨rfl, hx⟩; replace hb := chain hb hx; clear hx))
      go_ret
      exact ⟨rfl, hb⟩
    by_cases h3 : v < 0
    · clear h
      have hb := Below.refl w.heap.size w
      go_enter Try.func8, Try.ntmps8
      go_wp2_with (first
        | (go_at_call 29; refine (lebFirst _).mono ?_; rintro e w2 ⟨rfl, hx⟩; replace hb := chain hb hx; clear hx))
      go_ret
      exact ⟨rfl, hb⟩
    have h4 : 72057594037927935 < v := by omega
    clear h
    have hb := Below.refl w.heap.size w
    go_enter Try.func8, Try.ntmps8
    go_wp2_with (first
      | (go_at_call 29; refine (lebFirst _).mono ?_; rintro e w2 ⟨rfl, hx⟩; replace hb := chain hb hx; clear hx))
    go_ret
    exact ⟨rfl, hb⟩
  by_cases hc : 100 < l.length ∨ 100 < m.length ∨ v < 0 ∨ 72057594037927935 < v
  · exact bail hc
  clear bail
  have h1 : ¬ (100 : Int) < l.length := by omega
  have h2 : ¬ (100 : Int) < m.length := by omega
  have h3 : 0 ≤ v := by omega
  have h4 : v ≤ 72057594037927935 := by omega
  clear hc
  have hlen := Leb.put_len v h3 h4
  have HN : Hid (∀ W, _) := fun W => lebNextB ((ByteArray.mk l.toArray ++ ByteArray.mk (Leb.put v).toArray) ++ ByteArray.mk m.toArray) l.length W (by simp [ByteArray.size]; omega) (by omega)
  rw [show ((ByteArray.mk l.toArray ++ ByteArray.mk (Leb.put v).toArray) ++ ByteArray.mk m.toArray).data.toList = l ++ Leb.put v ++ m from by simp, Leb.next_put l v m h3 h4] at HN
  have HP : Hid (∀ W, _) := fun W => lebPut v W ⟨hv1, hv2⟩
  have HS : Hid (∀ W, _) := fun W => lebSize v W ⟨hv1, hv2⟩
  generalize Leb.put v = q at *
  obtain ⟨hq1, hq2⟩ := hlen
  have hb := Below.refl w.heap.size w
  go_enter Try.func8, Try.ntmps8
  go_wp2_with (first
    | (go_at_call 29; refine (lebFirst _).mono ?_; rintro e w2 ⟨rfl, hx⟩; replace hb := chain hb hx; clear hx)
    | (go_at_call 30; refine (HN.out _).mono ?_; rintro e w2 ⟨rfl, rfl⟩)
    | (go_at_call 32; refine (HP.out _).mono ?_; rintro e w2 ⟨rfl, hx⟩; replace hb := chain hb hx; clear hx)
    | (go_at_call 34; refine (HS.out _).mono ?_; rintro e w2 ⟨rfl, hx⟩; replace hb := chain hb hx; clear hx))
  go_ret
  exact ⟨ret_bool (by simp), hb⟩

set_option maxRecDepth 100000 in
set_option maxHeartbeats 1000000 in
theorem lebOne_walk (w : World) (s : ByteArray) (hs : s.size ≤ maxLen) (p : Int) (hp : -9223372036854775808 ≤ p ∧ p ≤ 9223372036854775807) :
    Calls Try.prog 9 #[.string s, .int .i64 p] w fun e w' => e = .returned (.bool true) ∧ Below w.heap.size w w' := by
  obtain ⟨l, rfl⟩ := str_list s
  have hl : l.length ≤ 9223372036854775807 := hs
  clear hs
  obtain ⟨hp1, hp2⟩ := hp
  by_cases h3 : l.length ≤ 100
  case neg =>
    have h3' : (100 : Int) < l.length := by omega
    have hb := Below.refl w.heap.size w
    go_enter Try.func9, Try.ntmps9
    go_wp2_with (first
      | (go_at_call 29; refine (lebFirst _).mono ?_; rintro e w2 ⟨rfl, hx⟩; replace hb := chain hb hx; clear hx))
    go_ret
    exact ⟨rfl, hb⟩
  have h3' : ¬ (100 : Int) < l.length := by omega
  have hone := Leb.next_one l p
  have hbad := Leb.next_bad l p
  have HN : Hid (∀ W, _) := fun W => lebNext l p W (by omega) ⟨hp1, hp2⟩
  have hrg := Leb.next_range l p
  generalize hr : Leb.next l p = r at *
  obtain ⟨r1, r2, r3⟩ := r
  clear hr
  simp only at HN hone hbad hrg
  obtain ⟨hg1, hg2, hg3, hg4, hg5, hg6⟩ := hrg
  by_cases hz : r3 = 0
  case neg =>
    obtain ⟨e1, e2⟩ := hbad hz
    simp only [Prod.mk.injEq, and_true] at e1
    obtain ⟨rfl, rfl⟩ := e1
    have hz' : (r3 != 0) = true := by simpa using hz
    clear hone hbad
    by_cases hc1 : p < 0
    · obtain rfl : r3 = 1 := e2.2 (.inl hc1)
      clear e2 hz'
      have hb := Below.refl w.heap.size w
      go_enter Try.func9, Try.ntmps9
      go_wp2_with (first
        | (go_at_call 29; refine (lebFirst _).mono ?_; rintro e w2 ⟨rfl, hx⟩; replace hb := chain hb hx; clear hx)
        | (go_at_call 30; refine (HN.out _).mono ?_; rintro e w2 ⟨rfl, rfl⟩))
      go_ret
      exact ⟨rfl, hb⟩
    · by_cases hc2 : (l.length : Int) < p
      · obtain rfl : r3 = 1 := e2.2 (.inr hc2)
        clear e2 hz'
        have hb := Below.refl w.heap.size w
        go_enter Try.func9, Try.ntmps9
        go_wp2_with (first
          | (go_at_call 29; refine (lebFirst _).mono ?_; rintro e w2 ⟨rfl, hx⟩; replace hb := chain hb hx; clear hx)
          | (go_at_call 30; refine (HN.out _).mono ?_; rintro e w2 ⟨rfl, rfl⟩))
        go_ret
        exact ⟨rfl, hb⟩
      · have h1 : (r3 == 1) = false := by
          rw [beq_eq_false_iff_ne]
          intro h
          rcases e2.1 h with h | h <;> omega
        clear e2
        have hb := Below.refl w.heap.size w
        go_enter Try.func9, Try.ntmps9
        go_wp2_with (first
          | (go_at_call 29; refine (lebFirst _).mono ?_; rintro e w2 ⟨rfl, hx⟩; replace hb := chain hb hx; clear hx)
          | (go_at_call 30; refine (HN.out _).mono ?_; rintro e w2 ⟨rfl, rfl⟩))
        go_ret
        exact ⟨ret_bool (by simp; omega), hb⟩
  subst hz
  obtain ⟨o1, o2, o3, o4, o5, o6, o7⟩ := hone r1 r2 rfl
  clear hone hbad
  obtain ⟨q, rfl⟩ := Int.eq_ofNat_of_zero_le o1
  obtain ⟨m, rfl⟩ := Int.eq_ofNat_of_zero_le (show 0 ≤ r2 by omega)
  have HP : Hid (∀ W, _) := fun W => lebPut r1 W ⟨by omega, by omega⟩
  simp only [Int.toNat_natCast] at o6
  rw [o6] at HP
  have hcut : (ByteArray.mk l.toArray).extract q m = ⟨((l.drop q).take (m - q)).toArray⟩ := ByteArray.extract_mk l q m
  have H7 : Hid (∀ k : Nat, (q : Int) ≤ k → (k : Int) < m → Leb.next (l.take k) q = (0, 0, 2)) := o7
  generalize (l.drop q).take (m - q) = c at *
  clear o6 o7
  have hb := Below.refl w.heap.size w
  go_enter Try.func9, Try.ntmps9
  go_wp2_with (first
    | (go_at_call 29; refine (lebFirst _).mono ?_; rintro e w2 ⟨rfl, hx⟩; replace hb := chain hb hx; clear hx)
    | (go_at_call 30; refine (HN.out _).mono ?_; rintro e w2 ⟨rfl, rfl⟩))
  have g1 : decide ((q : Int) < 0) = false := by simp
  have hsl : ∀ W, (Instr.slice 9 (.string ⟨l.toArray⟩) (some (.int .i64 q)) (some (.int .i64 m)) none).run Try.prog W = .ok (.string ⟨c.toArray⟩) W := by
    intro W
    rw [run_slice_string W 9 ⟨l.toArray⟩ .i64 .i64 q m Try.underlying9 (by omega) (by omega) (by simp [ByteArray.size]; omega)]
    simp only [Int.toNat_natCast, hcut]
  have g2 : decide (m ≤ q) = false := by simp; omega
  have g3 : decide (l.length < m) = false := by simp; omega
  have g4 : decide ((m : Int) ≤ (q : Int)) = false := by simp; omega
  have g5 : decide ((l.length : Int) < (m : Int)) = false := by simp; omega
  go_region_held3 (fun _ => True) (exact trivial) (first | (go_at_call 32; refine (HP.out _).mono ?_; rintro e w2 ⟨rfl, hx⟩; have hb2 := chain hb.drew hx; clear hx))
  go_wp2_with fail
  go_loop [8] (fun i => ∃ k : Nat, q ≤ k ∧ k ≤ m ∧ i = .int .i64 k) (fun i => m - (intOf i).toNat)
  case atStart => exact ⟨q, by omega, by omega, rfl⟩
  case round =>
    obtain ⟨k, hk1, hk2, rfl⟩ := hrel
    by_cases hk : k < m
    case neg =>
      have hx : ¬ (k : Int) < m := by omega
      go_wp2_with fail
      go_ret
      exact ⟨rfl, hb2⟩
    have hkk : (k : Int) ≤ l.length := by omega
    have HK : Hid (∀ W, _) := fun W => lebNextB ((ByteArray.mk l.toArray).extract 0 k) q W (by simp [ByteArray.size]; omega) ⟨hp1, hp2⟩
    rw [show ((ByteArray.mk l.toArray).extract 0 k).data.toList = l.take k from by simp, H7.out k (by omega) (by omega)] at HK
    go_wp2_with (first
      | (go_at_call 30; refine (HK.out _).mono ?_; rintro e w2 ⟨rfl, rfl⟩))
    go_round
    case rel => exact ⟨k + 1, by omega, by omega, by go_num⟩
    case measure => simp [intOf]; omega

set_option maxRecDepth 100000 in
set_option maxHeartbeats 1000000 in
theorem lebEight_walk (w : World) (v : Int) (hv : -9223372036854775808 ≤ v ∧ v ≤ 9223372036854775807) (s : ByteArray) (hs : s.size ≤ maxLen) :
    Calls Try.prog 10 #[.int .i64 v, .string s] w fun e w' => e = .returned (.bool true) ∧ Below w.heap.size w w' := by
  obtain ⟨l, rfl⟩ := str_list s
  have hl : l.length ≤ 9223372036854775807 := hs
  clear hs
  obtain ⟨hv1, hv2⟩ := hv
  by_cases h3 : l.length ≤ 40
  case neg =>
    have h3' : (40 : Int) < l.length := by omega
    have hb := Below.refl w.heap.size w
    go_enter Try.func10, Try.ntmps10
    go_wp2_with (first
      | (go_at_call 29; refine (lebFirst _).mono ?_; rintro e w2 ⟨rfl, hx⟩; replace hb := chain hb hx; clear hx))
    go_ret
    exact ⟨rfl, hb⟩
  have h3' : ¬ (40 : Int) < l.length := by omega
  have HN : Hid (∀ W, _) := fun W => lebFromEight l W (by omega)
  have HR : Hid (∀ W, _) := fun W => refFromEight l W (by omega)
  generalize Leb.fromEight l = r at *
  obtain ⟨r1, r2⟩ := r
  have HP : Hid (∀ W, _) := fun W => lebEight v W ⟨hv1, hv2⟩
  have HQ : Hid (∀ W, _) := fun W => refEight v W ⟨hv1, hv2⟩
  generalize Leb.eight v = q at *
  have hb := Below.refl w.heap.size w
  go_enter Try.func10, Try.ntmps10
  go_wp2_with (first
    | (go_at_call 29; refine (lebFirst _).mono ?_; rintro e w2 ⟨rfl, hx⟩; replace hb := chain hb hx; clear hx)
    | (go_at_call 35; refine (HN.out _).mono ?_; rintro e w2 ⟨rfl, rfl⟩)
    | (go_at_call 36; refine (HR.out _).mono ?_; rintro e w2 ⟨rfl, rfl⟩)
    | (go_at_call 37; refine (HP.out _).mono ?_; rintro e w2 ⟨rfl, hx⟩; replace hb := chain hb hx; clear hx)
    | (go_at_call 38; refine (HQ.out _).mono ?_; rintro e w2 ⟨rfl, hx⟩; replace hb := chain hb hx; clear hx))
  go_ret
  exact ⟨ret_bool (by simp), hb⟩

set_option maxRecDepth 100000 in
set_option maxHeartbeats 1000000 in
theorem lebRises_walk (w : World) (a : Int) (ha : -9223372036854775808 ≤ a ∧ a ≤ 9223372036854775807) (b : Int) (hb : -9223372036854775808 ≤ b ∧ b ≤ 9223372036854775807) :
    Calls Try.prog 11 #[.int .i64 a, .int .i64 b] w fun e w' => e = .returned (.bool true) ∧ Below w.heap.size w w' := by
  obtain ⟨ha1, ha2⟩ := ha
  obtain ⟨hb1, hb2⟩ := hb
  by_cases h1 : a < 0
  · skip
    have hb := Below.refl w.heap.size w
    go_enter Try.func11, Try.ntmps11
    go_wp2_with (first
      | (go_at_call 29; refine (lebFirst _).mono ?_; rintro e w2 ⟨rfl, hx⟩; replace hb := chain hb hx; clear hx))
    go_ret
    exact ⟨rfl, hb⟩
  by_cases h2 : b ≤ a
  · skip
    have hb := Below.refl w.heap.size w
    go_enter Try.func11, Try.ntmps11
    go_wp2_with (first
      | (go_at_call 29; refine (lebFirst _).mono ?_; rintro e w2 ⟨rfl, hx⟩; replace hb := chain hb hx; clear hx))
    go_ret
    exact ⟨rfl, hb⟩
  by_cases h3 : 72057594037927935 < b
  · skip
    have hb := Below.refl w.heap.size w
    go_enter Try.func11, Try.ntmps11
    go_wp2_with (first
      | (go_at_call 29; refine (lebFirst _).mono ?_; rintro e w2 ⟨rfl, hx⟩; replace hb := chain hb hx; clear hx))
    go_ret
    exact ⟨rfl, hb⟩
  have hfe := Leb.fromEight_eight a (by omega) (by omega)
  have hless := Leb.eight_less a b (by omega) (by omega) (by omega)
  have hmono := Leb.putF_mono 7 a.toNat b.toNat (by omega)
  have hpa : Leb.put a = Leb.putF 7 a.toNat := by unfold Leb.put; rw [if_pos (by omega)]
  have hpb : Leb.put b = Leb.putF 7 b.toNat := by unfold Leb.put; rw [if_pos (by omega)]
  rw [← hpa, ← hpb] at hmono
  have hne : Leb.put a ≠ Leb.put b := fun h => by have := Leb.put_inj a b (by omega) (by omega) h; omega
  have HE : Hid (∀ v W, -9223372036854775808 ≤ v ∧ v ≤ 9223372036854775807 → _) := fun v W h => lebEight v W h
  have HN : Hid (∀ W, _) := fun W => lebFromEight (Leb.eight a) W (by unfold Leb.eight; split <;> simp [Leb.eightN])
  rw [hfe] at HN
  have HEa : Hid (∀ W, _) := fun W => lebEight a W ⟨ha1, ha2⟩
  have HEb : Hid (∀ W, _) := fun W => lebEight b W ⟨hb1, hb2⟩
  have HSa : Hid (∀ W, _) := fun W => lebSize a W ⟨ha1, ha2⟩
  have HSb : Hid (∀ W, _) := fun W => lebSize b W ⟨hb1, hb2⟩
  have HPa : Hid (∀ W, _) := fun W => lebPut a W ⟨ha1, ha2⟩
  have HPb : Hid (∀ W, _) := fun W => lebPut b W ⟨hb1, hb2⟩
  generalize Leb.eight a = ea at *
  generalize Leb.eight b = eb at *
  generalize Leb.put a = pa at *
  generalize Leb.put b = pb at *
  have hpn : (pa == pb) = false := by simpa using hne
  clear hfe hpa hpb hne HE
  have hlen : ¬ (pb.length : Int) < pa.length := by omega
  have hb := Below.refl w.heap.size w
  go_enter Try.func11, Try.ntmps11
  go_wp2_with fail
  refine (lebFirst _).mono ?_
  rintro e w2 ⟨rfl, hx⟩
  replace hb := chain hb hx
  clear hx
  go_wp2_with fail
  refine (HEa.out _).mono ?_
  rintro e w2 ⟨rfl, hx⟩
  replace hb := chain hb hx
  clear hx
  go_wp2_with fail
  refine (HN.out _).mono ?_
  rintro e w2 ⟨rfl, rfl⟩
  go_wp2_with fail
  refine (HEa.out _).mono ?_
  rintro e w2 ⟨rfl, hx⟩
  replace hb := chain hb hx
  clear hx
  go_wp2_with fail
  refine (HEb.out _).mono ?_
  rintro e w2 ⟨rfl, hx⟩
  replace hb := chain hb hx
  clear hx
  go_wp2_with fail
  refine (HSa.out _).mono ?_
  rintro e w2 ⟨rfl, hx⟩
  replace hb := chain hb hx
  clear hx
  go_wp2_with fail
  refine (HSb.out _).mono ?_
  rintro e w2 ⟨rfl, hx⟩
  replace hb := chain hb hx
  clear hx
  go_wp2_with fail
  refine (HPa.out _).mono ?_
  rintro e w2 ⟨rfl, hx⟩
  replace hb := chain hb hx
  clear hx
  go_wp2_with fail
  refine (HPb.out _).mono ?_
  rintro e w2 ⟨rfl, hx⟩
  replace hb := chain hb hx
  clear hx
  go_wp2_with fail
  go_ret
  exact ⟨ret_bool (by simp), hb⟩
end Go.Proofs.Ytfchejgohegbgaa
