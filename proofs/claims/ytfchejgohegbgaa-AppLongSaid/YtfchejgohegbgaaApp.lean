/- Acknowledgements: what Answer and Taken return, and the two laws on them. -/
import Derived.Test.YtfchejgohegbgaaBase
namespace Go.Proofs.Ytfchejgohegbgaa
open Go.RowKit
set_option linter.unusedVariables false

/-- What data are answered: 'no', or 'ok:' and the first bytes of the data. -/
def answer (l : List UInt8) : List UInt8 := if l = [] ∨ l.head? = some 33 then [110, 111] else [111, 107, 58] ++ l.take 29

theorem answer_len (l : List UInt8) : 2 ≤ (answer l).length ∧ (answer l).length ≤ 32 := by
  unfold answer
  split
  · simp
  · simp; omega

theorem answer_taken (l : List UInt8) : ((answer l).take 3 == [111, 107, 58]) = !decide (l = [] ∨ l.head? = some 33) := by
  unfold answer
  by_cases h : l = [] ∨ l.head? = some 33
  · rw [if_pos h]; simp [h]
  · rw [if_neg h]; simp [h]

theorem answer_more (l m : List UInt8) (h : 29 ≤ l.length) : answer (l ++ m) = answer l := by
  unfold answer
  match l, h with
  | c :: t, h =>
    simp only [List.cons_append, List.head?_cons, List.cons_ne_nil, false_or]
    split
    · rfl
    · have e : (c :: (t ++ m)).take 29 = (c :: t).take 29 := by rw [← List.cons_append, List.take_append_of_le_length h]
      rw [e]

set_option maxRecDepth 100000 in
set_option maxHeartbeats 1000000 in
theorem strPrefix (l p : List UInt8) (w : World) (hl : l.length ≤ 9223372036854775807) (hp : p.length ≤ 9223372036854775807) :
    Calls Try.prog 61 #[.string ⟨l.toArray⟩, .string ⟨p.toArray⟩] w fun e w' => e = .returned (.bool (l.take p.length == p)) ∧ w = w' := by
  by_cases h : p.length ≤ l.length
  · have h' : (p.length : Int) ≤ l.length := by omega
    have hx : (ByteArray.mk l.toArray).extract 0 p.length = ⟨(l.take p.length).toArray⟩ := by rw [ByteArray.extract_mk]; simp
    clear h
    go_enter Try.func61, Try.ntmps61
    go_wp2
    go_ret
    exact ⟨ret_bool (by simp), rfl⟩
  · have h' : ¬ (p.length : Int) ≤ l.length := by omega
    have hf : (l.take p.length == p) = false := by
      rw [beq_eq_false_iff_ne]
      intro he
      have := congrArg List.length he
      rw [List.length_take] at this
      omega
    have H := Lib.hid hf
    clear hf h
    go_enter Try.func61, Try.ntmps61
    go_wp2
    go_ret
    exact ⟨ret_bool (by rw [H.out]), rfl⟩

set_option maxRecDepth 100000 in
set_option maxHeartbeats 1000000 in
theorem appTaken (l : List UInt8) (w : World) (hl : l.length ≤ 9223372036854775807) :
    Calls Try.prog 24 #[.string ⟨l.toArray⟩] w fun e w' => e = .returned (.bool (l.take 3 == [111, 107, 58])) ∧ w = w' := by
  have HT := Lib.hid (strPrefix l [111, 107, 58] w hl (by simp))
  go_enter Try.func24, Try.ntmps24
  go_wp2_with (first
    | (go_at_call 61; refine (HT.out).mono ?_; rintro e w2 ⟨rfl, rfl⟩))
  go_ret
  exact ⟨rfl, rfl⟩

set_option maxRecDepth 100000 in
set_option maxHeartbeats 1000000 in
theorem appAnswer (l : List UInt8) (w : World) (hl : l.length ≤ 9223372036854775000) :
    Calls Try.prog 22 #[.string ⟨l.toArray⟩] w fun e w' => e = .returned (.string ⟨(answer l).toArray⟩) ∧ w = w' := by
  match l with
  | [] =>
    go_enter Try.func22, Try.ntmps22
    go_wp2_with fail
    go_ret
    exact ⟨rfl, rfl⟩
  | c :: t =>
    have hl' : (t.length : Int) + 1 ≤ 9223372036854775000 := by simp at hl; omega
    have ht := strPrefix (c :: t) [33] w (by omega) (by simp)
    simp only [List.length_cons, List.length_nil, List.take_succ_cons, List.take_zero] at ht
    by_cases hc : c = 33
    · subst hc
      have HT := Lib.hid ht
      clear ht
      clear hl
      go_enter Try.func22, Try.ntmps22
      go_wp2_with (go_at_call 61; refine (HT.out).mono ?_; rintro e w2 ⟨rfl, rfl⟩)
      go_ret
      exact ⟨rfl, rfl⟩
    · have he : answer (c :: t) = [111, 107, 58] ++ (c :: t).take 29 := by unfold answer; rw [if_neg (by simp [hc])]
      have H := Lib.hid he
      have hne : c.toNat ≠ 33 := fun h => hc (UInt8.toNat_inj.1 h)
      have hne' : ((c.toNat : Int) == 33) = false := by simp; omega
      rw [show ([c] == [33]) = false from by simp [hc]] at ht
      have HT := Lib.hid ht
      clear ht
      clear he hl hne hc
      by_cases hs : (t.length : Int) + 1 ≤ 29
      all_goals
        go_enter Try.func22, Try.ntmps22
        go_wp2_with (go_at_call 61; refine (HT.out).mono ?_; rintro e w2 ⟨rfl, rfl⟩)
        go_ret
        refine ⟨ret_str ?_, rfl⟩
        rw [H.out]
        apply ByteArray.ext
        simp
        try exact (List.take_of_length_le (by omega)).symm

set_option maxRecDepth 100000 in
set_option maxHeartbeats 1000000 in
theorem refAnswer (l : List UInt8) (w : World) (hl : l.length ≤ 9223372036854775000) :
    Calls Try.prog 23 #[.string ⟨l.toArray⟩] w fun e w' => e = .returned (.string ⟨(answer l).toArray⟩) ∧ w = w' := by
  match l with
  | [] =>
    go_enter Try.func23, Try.ntmps23
    go_wp2_with fail
    go_ret
    exact ⟨rfl, rfl⟩
  | c :: t =>
    have hl' : (t.length : Int) + 1 ≤ 9223372036854775000 := by simp at hl; omega
    have hbyte : ((ByteArray.mk (c :: t).toArray)[0]'(by simp [ByteArray.size])).toNat = c.toNat := rfl
    by_cases hc : c = 33
    · subst hc
      clear hl
      go_enter Try.func23, Try.ntmps23
      go_wp2_with fail
      go_ret
      exact ⟨rfl, rfl⟩
    · have he : answer (c :: t) = [111, 107, 58] ++ (c :: t).take 29 := by unfold answer; rw [if_neg (by simp [hc])]
      have H := Lib.hid he
      have hne : c.toNat ≠ 33 := fun h => hc (UInt8.toNat_inj.1 h)
      have hne' : ((c.toNat : Int) == 33) = false := by simp; omega
      clear he hl hne hc
      by_cases hs : (t.length : Int) + 1 ≤ 29
      all_goals
        go_enter Try.func23, Try.ntmps23
        go_wp2_with fail
        go_ret
        refine ⟨ret_str ?_, rfl⟩
        rw [H.out]
        apply ByteArray.ext
        simp
        try exact (List.take_of_length_le (by omega)).symm

set_option maxRecDepth 100000 in
set_option maxHeartbeats 1000000 in
theorem appFirst (w : World) : Calls Try.prog 21 #[] w fun e w' => e = .returned (.bool true) ∧ w = w' := by
  have h1 : Hid (∀ W, _) := fun W => appAnswer [104, 101, 108, 108, 111] W (by simp)
  have h2 : Hid (∀ W, _) := fun W => appAnswer [33, 120] W (by simp)
  rw [show answer [104, 101, 108, 108, 111] = [111, 107, 58, 104, 101, 108, 108, 111] from by decide] at h1
  rw [show answer [33, 120] = [110, 111] from by decide] at h2
  go_enter Try.func21, Try.ntmps21
  go_wp2_with fail
  refine (h1.out _).mono ?_
  rintro e w2 ⟨rfl, rfl⟩
  go_wp2_with fail
  refine (h2.out _).mono ?_
  rintro e w2 ⟨rfl, rfl⟩
  go_wp2_with fail
  go_ret
  exact ⟨rfl, rfl⟩

set_option maxRecDepth 100000 in
set_option maxHeartbeats 1000000 in
theorem appTells_walk (w : World) (a : ByteArray) (ha : a.size ≤ maxLen) (b : ByteArray) (hbb : b.size ≤ maxLen) :
    Calls Try.prog 4 #[.string a, .string b] w fun e w' => e = .returned (.bool true) ∧ Below w.heap.size w w' := by
  obtain ⟨l, rfl⟩ := str_list a
  obtain ⟨m, rfl⟩ := str_list b
  have hl : l.length ≤ 9223372036854775807 := ha
  have hm : m.length ≤ 9223372036854775807 := hbb
  clear ha hbb
  by_cases h1 : (2000 : Int) < l.length
  · skip
    go_enter Try.func4, Try.ntmps4
    go_wp2_with (first
      | (go_at_call 21; refine (appFirst _).mono ?_; rintro e w2 ⟨rfl, rfl⟩))
    go_ret
    exact ⟨rfl, Below.refl _ _⟩
  by_cases h2 : (2000 : Int) < m.length
  · skip
    go_enter Try.func4, Try.ntmps4
    go_wp2_with (first
      | (go_at_call 21; refine (appFirst _).mono ?_; rintro e w2 ⟨rfl, rfl⟩))
    go_ret
    exact ⟨rfl, Below.refl _ _⟩
  have HA := Lib.hid (appAnswer l w (by omega))
  have HB := Lib.hid (refAnswer l w (by omega))
  have HT := Lib.hid (appTaken m w hm)
  generalize answer l = x at *
  by_cases h3 : 3 ≤ m.length
  · have h3' : (3 : Int) ≤ m.length := by omega
    have hx : (ByteArray.mk m.toArray).extract 0 3 = ⟨(m.take 3).toArray⟩ := by rw [ByteArray.extract_mk]; simp
    clear h3
    generalize m.take 3 = y at *
    go_enter Try.func4, Try.ntmps4
    go_wp2_with (first
      | (go_at_call 21; refine (appFirst _).mono ?_; rintro e w2 ⟨rfl, rfl⟩)
      | (go_at_call 22; refine (HA.out).mono ?_; rintro e w2 ⟨rfl, rfl⟩)
      | (go_at_call 23; refine (HB.out).mono ?_; rintro e w2 ⟨rfl, rfl⟩)
      | (go_at_call 24; refine (HT.out).mono ?_; rintro e w2 ⟨rfl, rfl⟩))
    go_ret
    exact ⟨ret_bool (by simp), Below.refl _ _⟩
  · have h3' : ¬ (3 : Int) ≤ m.length := by omega
    have hf : (m.take 3 == [111, 107, 58]) = false := by
      rw [beq_eq_false_iff_ne]
      intro he
      have := congrArg List.length he
      rw [List.length_take] at this
      simp at this
      omega
    rw [hf] at HT
    clear h3 hf
    go_enter Try.func4, Try.ntmps4
    go_wp2_with (first
      | (go_at_call 21; refine (appFirst _).mono ?_; rintro e w2 ⟨rfl, rfl⟩)
      | (go_at_call 22; refine (HA.out).mono ?_; rintro e w2 ⟨rfl, rfl⟩)
      | (go_at_call 23; refine (HB.out).mono ?_; rintro e w2 ⟨rfl, rfl⟩)
      | (go_at_call 24; refine (HT.out).mono ?_; rintro e w2 ⟨rfl, rfl⟩))
    go_ret
    exact ⟨ret_bool (by simp), Below.refl _ _⟩

end Go.Proofs.Ytfchejgohegbgaa
