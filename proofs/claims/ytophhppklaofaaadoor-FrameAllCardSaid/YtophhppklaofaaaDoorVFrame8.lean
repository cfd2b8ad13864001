/- The law FrameAll, by the walker. -/
import Derived.Test.YtophhppklaofaaaDoorM20
import Derived.Test.YtophhppklaofaaaDoorM19
namespace Go.Proofs.YtophhppklaofaaaDoor.Vx
open Go.RowKit Sha
set_option linter.unusedVariables false
set_option linter.unusedSimpArgs false
/-- The first texts of a slice. -/
def strsN (get : Nat → List CV) (n : Nat) : List (List UInt8) := (List.range n).map fun i => strOf (get i)
/-- The texts' records, one behind the other. -/
def putsN (get : Nat → List CV) (n : Nat) : List UInt8 := (strsN get n).flatMap putF
theorem putsN_succ (get : Nat → List CV) (n : Nat) : putsN get (n + 1) = putsN get n ++ putF (strOf (get n)) := by
  unfold putsN strsN
  rw [List.range_succ, List.map_append, List.flatMap_append]
  simp
theorem all_putsN (get : Nat → List CV) (n : Nat) (tail : List UInt8) (ht : tail.length ≤ 7) (hl : ∀ i, i < n → (strOf (get i)).length ≤ 2000) : allF (putsN get n ++ tail) = (strsN get n, ((putsN get n).length : Int), if tail = [] then 0 else 2) := by
  have := all_puts tail ht (strsN get n) [] (putsN get n ++ tail).length (fun b hb => by
    unfold strsN at hb
    obtain ⟨i, hi, rfl⟩ := List.mem_map.1 hb
    have := hl i (List.mem_range.1 hi)
    omega) (by rw [List.length_append]; exact Nat.le_refl _)
  simp only [List.nil_append, List.length_nil] at this
  show allR _ _ 0 = _
  rw [show (0 : Int) = ((0 : Nat) : Int) from rfl]
  refine this.trans ?_
  show (_, (0 : Int) + _, _) = _
  rw [Int.zero_add]
  rfl
theorem strsN_len (get : Nat → List CV) (n : Nat) : (strsN get n).length = n := by simp [strsN]
theorem textsN (get : Nat → List CV) (n : Nat) : textsEq n (strsG (strsN get n)) n (fun i => [.str (strOf (get i))]) = true := by
  refine textsEq_all fun i hi => ?_
  simp [strsG, strsN, strOf, List.getD, hi]
structure LPu (n : Nat) (get : Nat → List CV) where
  i : Int
  s : List UInt8
  h0 : 0 ≤ i
  h1 : i ≤ (n : Int)
  h2 : s = putsN get i.toNat
def faPre (gg sz n : Nat) (get : Nat → List CV) (ty one m : Nat) (gets : Nat → List CV) : Prop := KsAt gg sz n get ∧ ty = 9 ∧ one = 1 ∧ StrsAt m gets ∧ m ≤ 9223372036854775807
def sFAll : SpecF
  | [.c (.row 1), .c (.str tl)], [.glob gg sz n get, .elems ty one m gets] => some (faPre gg sz n get ty one m gets, .c .tt, [.dead, .dead])
  | _, _ => none

set_option maxRecDepth 100000 in
set_option maxHeartbeats 8000000 in
theorem fAllP : Fn Tryd.prog 8 [0] [(9, 1)] sFAll := by
  have hC : CtsOk Tryd.prog [(29, appFn [0] [] sFirst11), (18, appFn [] [(9, 1)] sLightT), (30, appFn [0] [] sPut), (32, appFn [0] [] sAll), (33, appFn [] [(9, 1), (9, 1)] sTexts)] := CtsOk.cons (Fn.ct first11P) <| CtsOk.cons (Fn.ct lightTP) <| CtsOk.cons (Fn.ct putP) <| CtsOk.cons (Fn.ct allP) <| CtsOk.cons (Fn.ct textsP) <| CtsOk.nil _
  refine Fn.of (E := tbF0) [0] 0 [] tbF0_ok hC (by kernel_rfl) Tryd.func8 rfl rfl rfl (by kernel_rfl) (by kernel_rfl) 2 5 1 ?_ ?_
  · intro args h pre r h' hs
    unfold sFAll at hs
    split at hs
    · cases hs; exact ⟨rfl, rfl, Nat.le_of_ble_eq_true rfl⟩
    · cases hs
  · intro args h pre r h' hs hp
    unfold sFAll at hs
    split at hs
    rotate_left
    · cases hs
    rename_i tl gg sz n get ty one m gets
    cases hs
    obtain ⟨hK, rfl, rfl, hst, hm⟩ := hp
    refine ⟨[.glob 0 1 64 (fun i => [.int .u32 (kOf i)]), .elems 9 1 m (fun i => [.str (strOf (gets i))])], ⟨hK.same.1, hst.same.1, trivial⟩, ?_⟩
    clear hK hst
    have hst : StrsAt m (fun i => [CV.str (strOf (gets i))]) := fun i hi => ⟨_, rfl⟩
    unfold sFirst11 sLightT sPut sAll sTexts
    generalize hg0 : (List.length : List UInt8 → Nat) = g0
    generalize hg1 : (List.length : List (List UInt8) → Nat) = g1
    generalize hL : lft Tryd.prog _ = L
    generalize ho0 : @KsAt = zo0, ho1 : @kOf = zo1, ho2 : @lightT = zo2, ho3 : @lightPre = zo3, ho4 : @putPre = zo4, ho5 : @putF = zo5, ho6 : @putE = zo6, ho7 : @allPreK = zo7, ho8 : @allF = zo8, ho9 : @strsG = zo9, ho10 : @strsN = zo10, ho11 : @putsN = zo11, ho12 : @textsPre = zo12, ho13 : @textsEq = zo13, ho14 : @strOf = zo14
    generalize hA : Arith.std = A
    cbv
    subst hA hg0 hg1 hL ho0 ho1 ho2 ho3 ho4 ho5 ho6 ho7 ho8 ho9 ho10 ho11 ho12 ho13 ho14
    have tt : ∀ {p : Prop} [Decidable p], p → decide p = true := fun h => decide_eq_true h
    refine Need.mk ksAt_self fun _ => Need.mk ⟨rfl, rfl, hst, hm, by decide, by decide, by decide, by decide⟩ fun _ => ?_
    refine Ife.mk (fun _ => Need.mk ksAt_self fun _ => by exact ⟨[0, 1], ⟨rfl, by repeat' (first | exact trivial | exact rfl | apply And.intro), by decide, rfl, by repeat' (first | exact trivial | exact rfl | apply And.intro)⟩⟩) (fun h1 => ?_)
    refine Ife.mk (fun _ => Need.mk ksAt_self fun _ => by exact ⟨[0, 1], ⟨rfl, by repeat' (first | exact trivial | exact rfl | apply And.intro), by decide, rfl, by repeat' (first | exact trivial | exact rfl | apply And.intro)⟩⟩) (fun h2 => ?_)
    have h1 : lightT m (fun i => [CV.str (strOf (gets i))]) 20 2000 = true := by
      have h6 : (!lightT m (fun i => [CV.str (strOf (gets i))]) 20 2000) = false := h1
      simpa using h6
    obtain ⟨l1, l2, l3⟩ := lightT_iff.1 h1
    clear h1
    have l2 : ∀ i, i < m → (strOf (gets i)).length ≤ 2000 := fun i hi => by
      have h6 : ((strOf (gets i)).length : Int) ≤ 2000 := l2 i hi
      omega
    have l1 : m ≤ 20 := by omega
    have h2 : tl.length ≤ 7 := by have := of_decide_eq_false (p := (7 : Int) < (tl.length : Int)) h2; omega
    have hpn : ∀ k, k ≤ m → (putsN gets k).length ≤ k * 2008 := fun k => by
      induction k with
      | zero => intro _; exact Nat.le_refl _
      | succ k ih =>
        intro hk
        have := ih (by omega)
        have h3 := l2 k (by omega)
        have h4 := (put_len (strOf (gets k)) (by omega)).1
        rw [putsN_succ, List.length_append, h4, Nat.succ_mul]
        omega
    show Runs Tryd.prog 2 (.loop _) _ _
    refine loop_ruleR (N := env (lft Tryd.prog 2) 0 .std tbF0 [(29, appFn [0] [] sFirst11), (18, appFn [] [(9, 1)] sLightT), (30, appFn [0] [] sPut), (32, appFn [0] [] sAll), (33, appFn [] [(9, 1), (9, 1)] sTexts)] []) rfl tbF0_ok hC (fun c st K _ h => h) (by kernel_rfl) [0] (X := LPu m gets)
      (S := fun x => ⟨[.c (.row 1), .c (.str tl), .any, .any, .any, .c (.str x.s), .c (.int .i64 x.i)] ++ List.replicate 84 .any, [.glob 0 1 64 (fun i => [.int .u32 (kOf i)]), .elems 9 1 m (fun i => [.str (strOf (gets i))])]⟩) (μ := fun x => m - x.i.toNat) ⟨0, [], by omega, by omega, rfl⟩ (by kernel_rfl) [0, 1] ?_ ?_
    · refine ⟨rfl, by decide, ?_, ?_⟩ <;> repeat' (first | exact trivial | exact rfl | apply And.intro)
    rintro ⟨i, s, hi0, hin, hs⟩
    unfold sFirst11 sLightT sPut sAll sTexts
    generalize hg0 : (List.length : List UInt8 → Nat) = g0
    generalize hg1 : (List.length : List (List UInt8) → Nat) = g1
    generalize hL : lft Tryd.prog _ = L
    try dsimp only
    generalize ho0 : @KsAt = zo0, ho1 : @kOf = zo1, ho2 : @lightT = zo2, ho3 : @lightPre = zo3, ho4 : @putPre = zo4, ho5 : @putF = zo5, ho6 : @putE = zo6, ho7 : @allPreK = zo7, ho8 : @allF = zo8, ho9 : @strsG = zo9, ho10 : @strsN = zo10, ho11 : @putsN = zo11, ho12 : @textsPre = zo12, ho13 : @textsEq = zo13, ho14 : @strOf = zo14
    generalize hA : Arith.std = A
    cbv
    subst hA hg0 hg1 hL ho0 ho1 ho2 ho3 ho4 ho5 ho6 ho7 ho8 ho9 ho10 ho11 ho12 ho13 ho14
    replace hi0 : 0 ≤ i := hi0
    replace hin : i ≤ @Nat.cast Int instNatCastInt m := hin
    replace hs : s = putsN gets i.toNat := hs
    refine Ife.mk (fun hlt => ?_) (fun hlt => ?_)
    · replace hlt : i < @Nat.cast Int instNatCastInt m := of_decide_eq_true (p := i < (m : Int)) hlt
      have hb := l2 i.toNat (by omega)
      obtain ⟨hpl, hpe⟩ := put_len (strOf (gets i.toNat)) (by omega)
      have hsl := hpn i.toNat (by omega)
      rw [← hs] at hsl
      refine Need.mk (by show 0 ≤ i ∧ i < (m : Int); omega) fun _ => ?_
      refine Need.mk (by show i.toNat < m; omega) fun _ => Need.mk ⟨ksAt_self, (by show (strOf (gets i.toNat)).length ≤ 140737488350000; omega)⟩ fun _ => ?_
      refine Ife.mk (fun hb => absurd (show (!decide (putE (strOf (gets i.toNat)) = 0)) = true from hb) (by rw [tt hpe]; decide)) (fun _ => ?_)
      refine Need.mk (by show (s.length : Int) + ((putF (strOf (gets i.toNat))).length : Int) ≤ 9223372036854775807; omega) fun _ => Need.mk (by show fitStd .i64 (i + 1); unfold fitStd; omega) fun _ => ?_
      refine ⟨⟨i + 1, s ++ putF (strOf (gets i.toNat)), by omega, by omega, ?h2⟩, [0, 1], (by show m - (i + 1).toNat < m - i.toNat; omega), ?st⟩
      case st => refine ⟨rfl, by decide, ?_, ?_⟩ <;> repeat' (first | exact trivial | exact rfl | apply And.intro)
      case h2 => rw [show (i + 1).toNat = i.toNat + 1 by omega, putsN_succ, ← hs]
    · replace hlt : ¬ i < @Nat.cast Int instNatCastInt m := of_decide_eq_false (p := i < (m : Int)) hlt
      have hi : i.toNat = m := by omega
      rw [hi] at hs
      have hsl := hpn m (Nat.le_refl _)
      have a1 := all_putsN gets m [] (by decide) l2
      have a2 := all_putsN gets m tl h2 l2
      rw [List.append_nil, if_pos rfl] at a1
      rw [← hs] at a1 a2 hsl
      have hT1 : textsPre 9 1 (allF s).1.length (strsG (allF s).1) 9 1 m (fun i => [CV.str (strOf (gets i))]) := by
        rw [a1]
        exact ⟨rfl, rfl, strsG_at _, by show (strsN gets m).length ≤ _; rw [strsN_len]; omega, rfl, rfl, hst, by omega⟩
      have hT2 : textsPre 9 1 (allF (s ++ tl)).1.length (strsG (allF (s ++ tl)).1) 9 1 m (fun i => [CV.str (strOf (gets i))]) := by
        rw [a2]
        exact ⟨rfl, rfl, strsG_at _, by show (strsN gets m).length ≤ _; rw [strsN_len]; omega, rfl, rfl, hst, by omega⟩
      have hE1 : textsEq (allF s).1.length (strsG (allF s).1) m (fun i => [CV.str (strOf (gets i))]) = true := by
        rw [a1]
        show textsEq (strsN gets m).length (strsG (strsN gets m)) m _ = true
        rw [strsN_len]
        exact textsN gets m
      have hE2 : textsEq (allF (s ++ tl)).1.length (strsG (allF (s ++ tl)).1) m (fun i => [CV.str (strOf (gets i))]) = true := by
        rw [a2]
        show textsEq (strsN gets m).length (strsG (strsN gets m)) m _ = true
        rw [strsN_len]
        exact textsN gets m
      have hA1 : decide ((allF s).2.1 = (s.length : Int)) = true := tt (by rw [a1])
      have hB1 : decide ((allF s).2.2 = 0) = true := tt (by rw [a1])
      have hA2 : decide ((allF (s ++ tl)).2.1 = (s.length : Int)) = true := tt (by rw [a2])
      refine Need.mk ⟨ksAt_self, by omega⟩ fun _ => Need.mk (by show (s.length : Int) + (tl.length : Int) ≤ 9223372036854775807; omega) fun _ => Need.mk ⟨ksAt_self, (by show (s ++ tl).length ≤ 1000000; rw [List.length_append]; omega)⟩ fun _ => ?_
      refine Ife.mk (fun htl => ?_) (fun htl => ?_)
      · have htl : ¬ tl = [] := by
          have h6 : (!decide (tl = [])) = true := htl
          simpa using h6
        have hB2 : decide ((allF (s ++ tl)).2.2 = 2) = true := tt (by rw [a2, if_neg htl])
        clear a1 a2
        refine Need.mk hT1 fun _ => ?_
        refine Ife.mk (fun _ => ?_) (fun hb => absurd (hE1.symm.trans hb) (by decide))
        refine Ife.mk (fun _ => ?_) (fun hb => absurd (hA1.symm.trans hb) (by decide))
        refine Ife.mk (fun _ => ?_) (fun hb => absurd (hB1.symm.trans hb) (by decide))
        refine Need.mk hT2 fun _ => ?_
        refine Ife.mk (fun _ => ?_) (fun hb => absurd (hE2.symm.trans hb) (by decide))
        refine Ife.mk (fun _ => ?_) (fun hb => absurd (hA2.symm.trans hb) (by decide))
        exact ⟨[0, 1], ⟨rfl, hB2, by decide, rfl, by repeat' (first | exact trivial | exact rfl | apply And.intro)⟩⟩
      · have htl : tl = [] := by
          have h6 : (!decide (tl = [])) = false := htl
          simpa using h6
        have hB2 : decide ((allF (s ++ tl)).2.2 = 0) = true := tt (by rw [a2, if_pos htl])
        clear a1 a2
        refine Need.mk hT1 fun _ => ?_
        refine Ife.mk (fun _ => ?_) (fun hb => absurd (hE1.symm.trans hb) (by decide))
        refine Ife.mk (fun _ => ?_) (fun hb => absurd (hA1.symm.trans hb) (by decide))
        refine Ife.mk (fun _ => ?_) (fun hb => absurd (hB1.symm.trans hb) (by decide))
        refine Need.mk hT2 fun _ => ?_
        refine Ife.mk (fun _ => ?_) (fun hb => absurd (hE2.symm.trans hb) (by decide))
        refine Ife.mk (fun _ => ?_) (fun hb => absurd (hA2.symm.trans hb) (by decide))
        exact ⟨[0, 1], ⟨rfl, hB2, by decide, rfl, by repeat' (first | exact trivial | exact rfl | apply And.intro)⟩⟩

end Go.Proofs.YtophhppklaofaaaDoor.Vx
namespace Go.Proofs.YtophhppklaofaaaDoor
open Go.RowKit
set_option linter.unusedVariables false
set_option linter.unusedSimpArgs false
theorem frameAllWalk (w : World) (hk : ∀ i, i < 64 → w.cell? ⟨0, i, none⟩ = some (.int .u32 (Sha.kOf i))) (a : Option Addr) (cap : Nat) (ls : List (List UInt8)) (hs : SlIn w a 1 cap (ls.map fun l => [.string ⟨l.toArray⟩])) (t : ByteArray) (ht : t.size ≤ maxLen) :
    Calls Tryd.prog 8 #[.slice a ls.length cap, .string t] w fun e w' => e = .returned (.bool true) ∧ Below w.heap.size w w' := by
  obtain ⟨l, rfl⟩ : ∃ l : List UInt8, t = ⟨l.toArray⟩ := ⟨t.data.toList, by cases t; simp⟩
  obtain ⟨p, hp, g⟩ := hs.good (get := fun i => [.str (ls.getD i [])]) (fun i hi => by
    have hi' : i < ls.length := by simpa using hi
    simp [Vx.IsL, Vx.CV.den, hi', Vx.one])
  have hm := hs.max
  simp only [List.length_map] at hp g hm
  rw [← hp]
  refine Calls.mono (Vx.fAllP.run [.c (.row 1), .c (.str l)] [.glob 0 1 64 (fun i => [.int .u32 (Sha.kOf i)]), .elems 9 1 ls.length (fun i => [.str (ls.getD i [])])] _ _ _ rfl
    ⟨Vx.ksAt_self, rfl, rfl, fun i hi => ⟨_, rfl⟩, Nat.le_trans hm (by decide)⟩ [⟨0, undef, 0⟩, p] w _ (Vx.Rel.addView (Vx.relGlob hk) 9 g) ⟨_, _, rfl, (by obtain ⟨a', cap', e, _⟩ := g.sl; simp [Vx.SV.is, Vx.CV.den, e, Vx.one] : Vx.SV.is [⟨0, undef, 0⟩, p] (.c (.row 1)) p.v), _, _, rfl, rfl, rfl⟩) fun e W' he => ?_
  obtain ⟨u, ρ', rfl, hu, hr⟩ := he
  obtain rfl : .bool true = u := Option.some.inj hu
  exact ⟨rfl, Vx.Rel.toBelow hr⟩
end Go.Proofs.YtophhppklaofaaaDoor
