/- Lists of texts compared; the law FrameTells, by the walker. -/
import Derived.Test.YtophhppklaofaaaDoorVFrame4
namespace Go.Proofs.YtophhppklaofaaaDoor.Vx
open Go.RowKit Sha
set_option linter.unusedVariables false
set_option linter.unusedSimpArgs false
def textsEq (n : Nat) (get : Nat → List CV) (m : Nat) (get' : Nat → List CV) : Bool := decide (n = m) && (List.range n).all fun i => decide (strOf (get i) = strOf (get' i))
def textsPre (ty one n : Nat) (get : Nat → List CV) (ty' one' m : Nat) (get' : Nat → List CV) : Prop := ty = 9 ∧ one = 1 ∧ StrsAt n get ∧ n ≤ 140737488355328 ∧ ty' = 9 ∧ one' = 1 ∧ StrsAt m get' ∧ m ≤ 140737488355328
structure LTx (n : Nat) (get get' : Nat → List CV) where
  i : Int
  h0 : 0 ≤ i
  h1 : i ≤ (n : Int)
  h2 : ∀ k, k < i.toNat → strOf (get k) = strOf (get' k)
theorem strsG_at (l : List (List UInt8)) : StrsAt l.length (strsG l) := fun i hi => ⟨_, rfl⟩
theorem textsEq_self (n : Nat) (get : Nat → List CV) : textsEq n get n get = true := by simp [textsEq]
theorem textsEq_false {n m : Nat} {get get' : Nat → List CV} (h : ¬ n = m) : textsEq n get m get' = false := by simp [textsEq, h]
theorem textsEq_at {n m : Nat} {get get' : Nat → List CV} {i : Nat} (hi : i < n) (h : ¬ strOf (get i) = strOf (get' i)) : textsEq n get m get' = false := by
  rw [Bool.eq_false_iff]
  intro h2
  simp only [textsEq, Bool.and_eq_true, List.all_eq_true, List.mem_range, decide_eq_true_iff] at h2
  exact h (h2.2 i hi)
theorem textsEq_all {n : Nat} {get get' : Nat → List CV} (h : ∀ i, i < n → strOf (get i) = strOf (get' i)) : textsEq n get n get' = true := by
  simp only [textsEq, Bool.and_eq_true, List.all_eq_true, List.mem_range, decide_eq_true_iff]
  exact ⟨trivial, h⟩
def sTexts : SpecF
  | [.c (.row 0), .c (.row 1)], [.elems ty one n get, .elems ty' one' m get'] => some (textsPre ty one n get ty' one' m get', .c (.bool (textsEq n get m get')), [.dead, .dead])
  | _, _ => none

set_option maxRecDepth 100000 in
set_option maxHeartbeats 2000000 in
theorem textsP : Fn Tryd.prog 33 [] [(9, 1), (9, 1)] sTexts := by
  have hC : CtsOk Tryd.prog [] := CtsOk.nil _
  refine Fn.of (E := tbF0) [] 0 [(6, [(0, true), (1, true), (2, true), (3, true), (4, true), (5, true), (6, true), (7, true), (8, true)])] tbF0_ok hC (by kernel_rfl) Tryd.func33 rfl rfl rfl (by kernel_rfl) (by kernel_rfl) 2 5 1 ?_ ?_
  · intro args h pre r h' hs
    unfold sTexts at hs
    split at hs
    · cases hs; exact ⟨rfl, rfl, Nat.le_of_ble_eq_true rfl⟩
    · cases hs
  · intro args h pre r h' hs hp
    unfold sTexts at hs
    split at hs
    rotate_left
    · cases hs
    rename_i ty one n get ty' one' m get'
    cases hs
    obtain ⟨rfl, rfl, hst, hn, rfl, rfl, hst', hm⟩ := hp
    refine ⟨[.elems 9 1 n (fun i => [.str (strOf (get i))]), .elems 9 1 m (fun i => [.str (strOf (get' i))])], ⟨hst.same.1, hst'.same.1, trivial⟩, ?_⟩
    clear hst hst'
    generalize hg0 : strOf = g0
    generalize hg1 : textsEq = g1
    generalize hL : lft Tryd.prog _ = L
    generalize hA : Arith.std = A
    cbv
    subst hA hg0 hg1 hL
    have nm : n = m ∨ ¬ n = m := by omega
    refine Ife.mk (fun h => ?_) (fun h => ?_)
    · have h : ¬ n = m := by
        have h6 : (!decide ((n : Int) = (m : Int))) = true := h
        have h7 : ¬ (n : Int) = (m : Int) := by simpa using h6
        omega
      rw [textsEq_false h]
      exact ⟨[0, 1], ⟨rfl, rfl, by decide, rfl, by repeat' (first | exact trivial | exact rfl | apply And.intro)⟩⟩
    have h : n = m := by
      have h6 : (!decide ((n : Int) = (m : Int))) = false := h
      have h7 : (n : Int) = (m : Int) := by simpa using h6
      omega
    subst h
    clear nm
    show Runs Tryd.prog 2 (.loop _) _ _
    refine loop_ruleR (N := env (lft Tryd.prog 2) 0 .std tbF0 [] [(6, [(0, true), (1, true), (2, true), (3, true), (4, true), (5, true), (6, true), (7, true), (8, true)])]) rfl tbF0_ok hC (fun c st K _ h => h) (by kernel_rfl) [] (X := LTx n get get')
      (S := fun x => ⟨[.c (.row 0), .c (.row 1), .any, .any, .any, .c (.int .i64 x.i)] ++ List.replicate 20 .any, [.elems 9 1 n (fun i => [.str (strOf (get i))]), .elems 9 1 n (fun i => [.str (strOf (get' i))])]⟩) (μ := fun x => n - x.i.toNat) ⟨0, by omega, by omega, fun k hk => absurd hk (by show ¬ k < (0 : Int).toNat; omega)⟩ (by kernel_rfl) [0, 1] ?_ ?_
    · refine ⟨rfl, by decide, ?_, ?_⟩ <;> repeat' (first | exact trivial | exact rfl | apply And.intro)
    rintro ⟨i, hi0, hin, hall⟩
    generalize hg0 : strOf = g0
    generalize hg1 : textsEq = g1
    generalize hL : lft Tryd.prog _ = L
    generalize hA : Arith.std = A
    cbv
    subst hA hg0 hg1 hL
    replace hi0 : 0 ≤ i := hi0
    replace hin : i ≤ @Nat.cast Int instNatCastInt n := hin
    refine Ife.mk (fun hlt => ?_) (fun hlt => ?_)
    · replace hlt : i < @Nat.cast Int instNatCastInt n := of_decide_eq_true (p := i < (n : Int)) hlt
      repeat refine Need.mk (by first | exact trivial | (simp only [Arith.std, fitStd]; omega) | (simp [Arith.std, fitStd]; omega)) fun _ => ?_
      refine Ife.mk (fun h => ?_) (fun h => ?_)
      · have h : ¬ strOf (get i.toNat) = strOf (get' i.toNat) := by
          have h6 : (!decide (strOf (get i.toNat) = strOf (get' i.toNat))) = true := h
          simpa using h6
        rw [textsEq_at (m := n) (show i.toNat < n by omega) h]
        exact ⟨[0, 1], ⟨rfl, rfl, by decide, rfl, by repeat' (first | exact trivial | exact rfl | apply And.intro)⟩⟩
      have h : strOf (get i.toNat) = strOf (get' i.toNat) := by
        have h6 : (!decide (strOf (get i.toNat) = strOf (get' i.toNat))) = false := h
        simpa using h6
      repeat refine Need.mk (by first | exact trivial | (simp only [Arith.std, fitStd]; omega) | (simp [Arith.std, fitStd]; omega)) fun _ => ?_
      refine ⟨⟨i + 1, by omega, by omega, ?h2⟩, [0, 1], (by show n - (i + 1).toNat < n - i.toNat; omega), ?st⟩
      case st => refine ⟨rfl, by decide, ?_, ?_⟩ <;> repeat' (first | exact trivial | exact rfl | apply And.intro)
      case h2 =>
        intro k hk
        by_cases hk2 : k = i.toNat
        · rw [hk2]; exact h
        · exact hall k (by omega)
    · replace hlt : ¬ i < @Nat.cast Int instNatCastInt n := of_decide_eq_false (p := i < (n : Int)) hlt
      rw [textsEq_all (n := n) (get := get) (get' := get') fun k hk => hall k (by show k < i.toNat; omega)]
      exact ⟨[0, 1], ⟨rfl, rfl, by decide, rfl, by repeat' (first | exact trivial | exact rfl | apply And.intro)⟩⟩

theorem put_nil : putF [] = [0, 0, 0, 0, 227, 176, 196, 66] ∧ putE [] = 0 := by decide +kernel
def sFirst11 : SpecF
  | [], [.glob gg sz n get] => some (KsAt gg sz n get, .c .tt, [.dead])
  | _, _ => none

set_option maxRecDepth 100000 in
set_option maxHeartbeats 2000000 in
theorem first11P : Fn Tryd.prog 29 [0] [] sFirst11 := by
  have hC : CtsOk Tryd.prog [(30, appFn [0] [] sPut)] := CtsOk.cons (Fn.ct putP) <| CtsOk.nil _
  refine Fn.of (E := tbF0) [0] 0 [] tbF0_ok hC (by kernel_rfl) Tryd.func29 rfl rfl rfl (by kernel_rfl) (by kernel_rfl) 1 5 1 ?_ ?_
  · intro args h pre r h' hs
    unfold sFirst11 at hs
    split at hs
    · cases hs; exact ⟨rfl, rfl, Nat.le_of_ble_eq_true rfl⟩
    · cases hs
  · intro args h pre r h' hs hp
    unfold sFirst11 at hs
    split at hs
    rotate_left
    · cases hs
    rename_i gg sz n get
    cases hs
    refine ⟨_, hp.same, ?_⟩
    clear hp
    unfold sPut
    generalize hg0 : putPre = g0
    generalize hg1 : putF = g1
    generalize hg2 : putE = g2
    generalize hg3 : KsAt = g3
    generalize hg4 : kOf = g4
    generalize hA : Arith.std = A
    cbv
    subst hA hg0 hg1 hg2 hg3 hg4
    refine Need.mk ⟨ksAt_self, by decide⟩ fun _ => ?_
    refine Ife.mk (fun _ => ?_) (fun hb => absurd ((show decide (putF [] = [0, 0, 0, 0, 227, 176, 196, 66]) = true from decide_eq_true put_nil.1).symm.trans hb) (by decide))
    exact ⟨[0], ⟨rfl, (show decide (putE [] = 0) = true from decide_eq_true put_nil.2), by decide, rfl, by repeat' (first | exact trivial | exact rfl | apply And.intro)⟩⟩

theorem allR_len : ∀ (f : Nat) (s : List UInt8) (a : Int), (allR f s a).1.length ≤ f
  | 0, s, a => Nat.le_refl _
  | f + 1, s, a => by
    unfold allR
    split
    · split
      · have := allR_len f s (nextF s a).2.1
        simp only [List.length_cons]
        omega
      · exact Nat.zero_le _
    · exact Nat.zero_le _
def ftPre (gg sz n : Nat) (get : Nat → List CV) : Prop := KsAt gg sz n get
def sFTells : SpecF
  | [.c (.str b), .c (.str s), .c (.int .i64 a)], [.glob gg sz n get] => some (ftPre gg sz n get, .c .tt, [.dead])
  | _, _ => none

set_option maxRecDepth 100000 in
set_option maxHeartbeats 8000000 in
theorem ftP : Fn Tryd.prog 9 [0] [] sFTells := by
  have hC : CtsOk Tryd.prog [(29, appFn [0] [] sFirst11), (30, appFn [0] [] sPut), (34, appPure sRFrame), (35, appFn [0] [] sNext), (36, appPure sRNext), (31, appFn [0] [] sOpen), (37, appPure sROpen), (32, appFn [0] [] sAll), (38, appFn [] [] sRAll), (33, appFn [] [(9, 1), (9, 1)] sTexts)] := CtsOk.cons (Fn.ct first11P) <| CtsOk.cons (Fn.ct putP) <| CtsOk.cons (Pure.ct rframeP) <| CtsOk.cons (Fn.ct nextP) <| CtsOk.cons (Pure.ct rnextP) <| CtsOk.cons (Fn.ct openP) <| CtsOk.cons (Pure.ct ropenP) <| CtsOk.cons (Fn.ct allP) <| CtsOk.cons (Fn.ct rallP) <| CtsOk.cons (Fn.ct textsP) <| CtsOk.nil _
  refine Fn.of (E := tbF0) [0] 0 [] tbF0_ok hC (by kernel_rfl) Tryd.func9 rfl rfl rfl (by kernel_rfl) (by kernel_rfl) 1 5 1 ?_ ?_
  · intro args h pre r h' hs
    unfold sFTells at hs
    split at hs
    · cases hs; exact ⟨rfl, rfl, Nat.le_of_ble_eq_true rfl⟩
    · cases hs
  · intro args h pre r h' hs hp
    unfold sFTells at hs
    split at hs
    rotate_left
    · cases hs
    rename_i b s a gg sz n get
    cases hs
    have hK : KsAt gg sz n get := hp
    refine ⟨_, hK.same, ?_⟩
    clear hK
    unfold sFirst11 sPut sRFrame sNext sRNext sOpen sROpen sAll sRAll sTexts
    generalize hg0 : putPre = g0
    generalize hg1 : nextPre = g1
    generalize hg2 : allPreK = g2
    generalize hg3 : allPre = g3
    generalize hg4 : rsumPre = g4
    generalize hg5 : textsPre = g5
    generalize hg6 : textsEq = g6
    generalize hg7 : putF = g7
    generalize hg8 : putE = g8
    generalize hg9 : nextF = g9
    generalize hg10 : openF = g10
    generalize hg11 : allF = g11
    generalize hg12 : strsG = g12
    generalize hg13 : KsAt = g13
    generalize hg14 : kOf = g14
    generalize hg15 : (List.length : List UInt8 → Nat) = g15
    generalize hg16 : (List.length : List (List UInt8) → Nat) = g16
    generalize hA : Arith.std = A
    set_option cbv.maxSteps 2000000 in cbv
    subst hA hg0 hg1 hg2 hg3 hg4 hg5 hg6 hg7 hg8 hg9 hg10 hg11 hg12 hg13 hg14 hg15 hg16
    refine Need.mk ksAt_self fun _ => ?_
    refine Ife.mk (fun _ => Need.mk ksAt_self fun _ => by exact ⟨[0], ⟨rfl, by repeat' (first | exact trivial | exact rfl | apply And.intro), by decide, rfl, by repeat' (first | exact trivial | exact rfl | apply And.intro)⟩⟩) (fun h1 => ?_)
    refine Ife.mk (fun _ => Need.mk ksAt_self fun _ => by exact ⟨[0], ⟨rfl, by repeat' (first | exact trivial | exact rfl | apply And.intro), by decide, rfl, by repeat' (first | exact trivial | exact rfl | apply And.intro)⟩⟩) (fun h2 => ?_)
    have h1 : b.length ≤ 2000 := by have := of_decide_eq_false (p := (2000 : Int) < (b.length : Int)) h1; omega
    have h2 : s.length ≤ 2000 := by have := of_decide_eq_false (p := (2000 : Int) < (s.length : Int)) h2; omega
    have eS : ∀ l : List UInt8, decide (l = l) = true := fun l => by simp
    have eI : ∀ x : Int, decide (x = x) = true := fun x => by simp
    have hl : (allF s).1.length ≤ 2000 := Nat.le_trans (allR_len s.length s 0) h2
    have hn : nextPre 0 1 64 (fun i => [.int .u32 (kOf i)]) s := ⟨ksAt_self, by omega⟩
    have hr : rsumPre s := show s.length ≤ 140737488350000 by omega
    refine Need.mk ⟨ksAt_self, by omega⟩ fun _ => Need.mk (show b.length ≤ 140737488350000 by omega) fun _ => Need.mk hn fun _ => Need.mk hr fun _ => Need.mk hn fun _ => Need.mk hr fun _ => Need.mk ⟨ksAt_self, by omega⟩ fun _ => Need.mk (show s.length ≤ 1000000 by omega) fun _ => ?_
    refine Ife.mk (fun _ => ?_) (fun hb => absurd ((eS (putF b)).symm.trans hb) (by decide))
    refine Ife.mk (fun _ => ?_) (fun hb => absurd ((eI (putE b)).symm.trans hb) (by decide))
    refine Ife.mk (fun _ => ?_) (fun hb => absurd ((eS (nextF s a).1).symm.trans hb) (by decide))
    refine Ife.mk (fun _ => ?_) (fun hb => absurd ((eI (nextF s a).2.1).symm.trans hb) (by decide))
    refine Ife.mk (fun _ => ?_) (fun hb => absurd ((eI (nextF s a).2.2).symm.trans hb) (by decide))
    refine Ife.mk (fun _ => ?_) (fun hb => absurd ((eS (openF s).1).symm.trans hb) (by decide))
    refine Ife.mk (fun _ => ?_) (fun hb => absurd ((eI (openF s).2).symm.trans hb) (by decide))
    refine Need.mk ⟨rfl, rfl, strsG_at _, by omega, rfl, rfl, strsG_at _, by omega⟩ fun _ => ?_
    refine Ife.mk (fun _ => ?_) (fun hb => absurd ((textsEq_self _ _).symm.trans hb) (by decide))
    refine Ife.mk (fun _ => ?_) (fun hb => absurd ((eI (allF s).2.1).symm.trans hb) (by decide))
    exact ⟨[0], ⟨rfl, eI (allF s).2.2, by decide, rfl, by repeat' (first | exact trivial | exact rfl | apply And.intro)⟩⟩

end Go.Proofs.YtophhppklaofaaaDoor.Vx
namespace Go.Proofs.YtophhppklaofaaaDoor
open Go.RowKit
theorem frameTellsWalk (w : World) (hk : ∀ i, i < 64 → w.cell? ⟨0, i, none⟩ = some (.int .u32 (Sha.kOf i))) (b : ByteArray) (hb : b.size ≤ maxLen) (s : ByteArray) (hs : s.size ≤ maxLen) (a : Int) (ha : -9223372036854775808 ≤ a ∧ a ≤ 9223372036854775807) :
    Calls Tryd.prog 9 #[.string b, .string s, .int .i64 a] w fun e w' => e = .returned (.bool true) ∧ Below w.heap.size w w' := by
  obtain ⟨k, rfl⟩ : ∃ l : List UInt8, b = ⟨l.toArray⟩ := ⟨b.data.toList, by cases b; simp⟩
  obtain ⟨l, rfl⟩ : ∃ l : List UInt8, s = ⟨l.toArray⟩ := ⟨s.data.toList, by cases s; simp⟩
  refine Calls.mono (Vx.ftP.run [.c (.str k), .c (.str l), .c (.int .i64 a)] [.glob 0 1 64 (fun i => [.int .u32 (Sha.kOf i)])] _ _ _ rfl Vx.ksAt_self [⟨0, undef, 0⟩] w _ (Vx.relGlob hk) ⟨_, _, rfl, rfl, _, _, rfl, rfl, _, _, rfl, rfl, rfl⟩) fun e W' he => ?_
  obtain ⟨u, ρ', rfl, hu, hr⟩ := he
  obtain rfl : .bool true = u := Option.some.inj hu
  exact ⟨rfl, Vx.Rel.toBelow hr⟩
end Go.Proofs.YtophhppklaofaaaDoor
