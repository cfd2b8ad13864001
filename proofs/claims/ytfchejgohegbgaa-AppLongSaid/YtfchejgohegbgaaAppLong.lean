/- AppLong: an answer fits, says whether the data were taken, and depends on the first bytes of the data alone. -/
import Derived.Test.YtfchejgohegbgaaApp
namespace Go.Proofs.Ytfchejgohegbgaa
open Go.RowKit
set_option linter.unusedVariables false

set_option maxRecDepth 100000 in
set_option maxHeartbeats 1000000 in
theorem appLong_walk (w : World) (a : ByteArray) (ha : a.size ≤ maxLen) (b : ByteArray) (hbb : b.size ≤ maxLen) :
    Calls Try.prog 5 #[.string a, .string b] w fun e w' => e = .returned (.bool true) ∧ Below w.heap.size w w' := by
  obtain ⟨l, rfl⟩ := str_list a
  obtain ⟨m, rfl⟩ := str_list b
  have hl : l.length ≤ 9223372036854775807 := ha
  have hm : m.length ≤ 9223372036854775807 := hbb
  clear ha hbb
  by_cases h1 : (2000 : Int) < l.length
  · skip
    go_enter Try.func5, Try.ntmps5
    go_wp2_with (first
      | (go_at_call 21; refine (appFirst _).mono ?_; rintro e w2 ⟨rfl, rfl⟩))
    go_ret
    exact ⟨rfl, Below.refl _ _⟩
  by_cases h2 : (2000 : Int) < m.length
  · skip
    go_enter Try.func5, Try.ntmps5
    go_wp2_with (first
      | (go_at_call 21; refine (appFirst _).mono ?_; rintro e w2 ⟨rfl, rfl⟩))
    go_ret
    exact ⟨rfl, Below.refl _ _⟩
  have HA := Lib.hid (appAnswer l w (by omega))
  have hcat : ByteArray.mk l.toArray ++ ByteArray.mk m.toArray = ⟨(l ++ m).toArray⟩ := ByteArray.mk_append_mk l m
  have HB := Lib.hid (appAnswer (l ++ m) w (by simp; omega))
  rw [← hcat] at HB
  have hlen := answer_len l
  have HT := Lib.hid (appTaken (answer l) w (by omega))
  rw [answer_taken] at HT
  have hmore := answer_more l m
  generalize answer l = x at *
  generalize answer (l ++ m) = y at *
  clear hcat
  obtain ⟨hx1, hx2⟩ := hlen
  cases l with
  | nil =>
    simp only [true_or, decide_true, Bool.not_true] at HT
    clear hmore hl
    go_enter Try.func5, Try.ntmps5
    go_wp2_with fail
    refine (appFirst _).mono ?_
    rintro e w2 ⟨rfl, rfl⟩
    go_wp2_with fail
    refine (HA.out).mono ?_
    rintro e w2 ⟨rfl, rfl⟩
    go_wp2_with fail
    refine (HB.out).mono ?_
    rintro e w2 ⟨rfl, rfl⟩
    go_wp2_with fail
    refine (HT.out).mono ?_
    rintro e w2 ⟨rfl, rfl⟩
    go_wp2_with fail
    go_ret
    exact ⟨rfl, Below.refl _ _⟩
  | cons c t =>
    have hne : (c :: t).isEmpty = false := rfl
    have hbyte : ((ByteArray.mk (c :: t).toArray)[0]'(by simp [ByteArray.size])).toNat = c.toNat := rfl
    have hlt : (0 : Int) < (t.length : Int) + 1 := by omega
    have hc256 := c.toNat_lt
    have HC : Hid ((!decide (c :: t = [] ∨ (c :: t).head? = some 33)) = ((c.toNat : Int) != 33)) := by
      show (!decide (c :: t = [] ∨ (c :: t).head? = some 33)) = ((c.toNat : Int) != 33)
      by_cases h : c = 33
      · subst h; rfl
      · have hne : c.toNat ≠ 33 := fun h' => h (UInt8.toNat_inj.1 h')
        have : ((c.toNat : Int) != 33) = true := by simp; omega
        rw [this]
        simp [h]
    rw [HC.out] at HT
    generalize c.toNat = n at *
    generalize hq : ((n : Int) != 33) = q at *
    by_cases h29 : (t.length : Int) + 1 < 29
    · have HM := Lib.hid hmore
      clear hmore HC
      go_enter Try.func5, Try.ntmps5
      go_wp2_with fail
      refine (appFirst _).mono ?_
      rintro e w2 ⟨rfl, rfl⟩
      go_wp2_with fail
      refine (HA.out).mono ?_
      rintro e w2 ⟨rfl, rfl⟩
      go_wp2_with fail
      refine (HB.out).mono ?_
      rintro e w2 ⟨rfl, rfl⟩
      go_wp2_with fail
      refine (HT.out).mono ?_
      rintro e w2 ⟨rfl, rfl⟩
      go_wp2_with fail
      go_ret
      exact ⟨ret_bool (by simp), Below.refl _ _⟩
    · have hxy : y = x := hmore (by simp; omega)
      subst hxy
      clear hmore HC
      go_enter Try.func5, Try.ntmps5
      go_wp2_with fail
      refine (appFirst _).mono ?_
      rintro e w2 ⟨rfl, rfl⟩
      go_wp2_with fail
      refine (HA.out).mono ?_
      rintro e w2 ⟨rfl, rfl⟩
      go_wp2_with fail
      refine (HB.out).mono ?_
      rintro e w2 ⟨rfl, rfl⟩
      go_wp2_with fail
      refine (HT.out).mono ?_
      rintro e w2 ⟨rfl, rfl⟩
      go_wp2_with fail
      go_ret
      exact ⟨ret_bool (by simp), Below.refl _ _⟩
end Go.Proofs.Ytfchejgohegbgaa
